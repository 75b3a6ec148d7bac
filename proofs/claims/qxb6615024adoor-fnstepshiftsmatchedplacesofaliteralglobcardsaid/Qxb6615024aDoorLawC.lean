/-
  THE LITERAL GLOB's PROGRAM, as the law makes it.
-/
import Derived.Test.Qxb6615024aDoorLawB
namespace Go.Proofs.Qxb6615024aDoor
open Go.RowKit
set_option linter.unusedVariables false
namespace Gl

/-- val leads to the program of the pattern zs -/
def Progd (v : World) (xm mm n cb : Nat) (zs cs : List Int) (val : Value) (u : World) : Prop :=
  ∃ g p1 p2 p3 ip, val = .pointer (some ⟨g, 0, none⟩) ∧ PG u [xm, mm] g p1 p2 p3 cb zs.length ip cs.length n cs (fun i => pos zs (cs.getD i 0) zs.length) ∧ Kept v u []

theorem newp_pg (v u : World) (n p1 p2 p3 cb Bp xm mm base : Nat) (zs cs : List Int) (vs : List Value) (r1 : Row u .u64 30 p1 n (List.replicate n 0)) (r2 : Row u .u64 30 p2 n (List.replicate n 0)) (r3 : Row u .u64 30 p3 n (List.replicate n 0))
    (k : Kept v u []) (hp1 : v.heap.size ≤ p1) (hp2 : v.heap.size ≤ p2) (hp3 : v.heap.size ≤ p3) (rc : Row v .i32 21 cb zs.length cs) (hcx : xm < cb) (hcm : mm < cb) (vr : VRow v 22 Bp vs) (vl : vs.length = cs.length)
    (hpl : ∀ j, j < cs.length → PlOk v base Bp (vs.getD j undef) (pos zs (cs.getD j 0) zs.length)) (hbx : xm < base) (hbm : mm < base) (asc : Asc cs) (lc : cs.length ≤ 4096) (h64 : zs.length + 1 ≤ 64 * n) (hm : zs.length ≤ 4096) :
    Calls Tryd.prog 9 #[.int .i64 n, .slice (some ⟨p1, 0, none⟩) n n, .slice (some ⟨p2, 0, none⟩) n n, .slice (some ⟨p3, 0, none⟩) n n, .slice (some ⟨cb, 0, none⟩) cs.length zs.length, .slice (some ⟨Bp, 0, none⟩) cs.length cs.length] u fun e u' => ∃ val, e = .returned val ∧ Progd v xm mm n cb zs cs val u' := by
  have ks := k.size
  have hcb := rc.lt
  refine (newp_any n _ _ _ _ n n n n n n cs.length zs.length Bp cs.length vs u lc (vr.kept k (by simp)) vl (fun j hj => ?_)).mono ?_
  · obtain ⟨a, cap, e, _⟩ := hpl j hj
    exact ⟨a, _, cap, e⟩
  · rintro e u' ⟨g, us, he, hg1, hg2, c1, c4, c5, c7, c8, c11, c12, vu, lu, kk, hu⟩
    have kks := kk.size
    have hvu := vu.lt
    refine ⟨_, he, g, p1, p2, p3, u.heap.size, rfl, ?_, k.trans kk⟩
    refine ⟨c1, c4, c5, c7, c8, c11, c12, r1.kept kk (by simp), r2.kept kk (by simp), r3.kept kk (by simp), ((rc.kept k (by simp)).kept kk (by simp)).cl, lc, asc, fun i hi => ?_, fun i hi => ⟨?_, fun p hp => ?_⟩, ⟨?_, hg2⟩, ⟨?_, ?_, ?_⟩, ⟨?_, by omega⟩, ⟨?_, hvu⟩⟩
    · obtain ⟨a, cap, e1, e2⟩ := hpl i hi
      refine ⟨a, cap, ?_, ?_, fun j hj => ?_⟩
      · rw [vu.cell (2 * i) (by omega), (hu i hi).1, e1]
      · rw [vu.cell (2 * i + 1) (by omega), (hu i hi).2]
      · obtain ⟨ab, f1, f2, f3, f4, f5⟩ := e2 j hj
        exact ⟨ab, f1, by simp; omega, by omega, (f5.kept k f4 (by simp)).kept kk (by omega) (by simp)⟩
    · have := pos_len zs (cs.getD i 0) zs.length
      show (pos zs (cs.getD i 0) zs.length).length ≤ 4096
      omega
    · have := (mem_pos zs (cs.getD i 0) zs.length p).1 hp
      omega
    · simp; omega
    · simp; omega
    · simp; omega
    · simp; omega
    · simp; omega
    · simp; omega

theorem PG.widen {w : World} {S : List Nat} {g st ss jb cb cap ip ipc n : Nat} {cs : List Int} {pl : Nat → List Nat} (h : PG w S g st ss jb cb cap ip ipc n cs pl) (x : Nat) (hx : w.heap.size ≤ x) : PG w (x :: S) g st ss jb cb cap ip ipc n cs pl := by
  have l1 := h.rst.lt
  have l2 := h.rss.lt
  have l3 := h.rjb.lt
  have l4 := h.gS.2
  have l5 := h.cS.2
  have l6 := h.iS.2
  have key : ∀ y, y ∉ S → y < w.heap.size → y ∉ x :: S := fun y hy hl => by simp; exact ⟨by omega, hy⟩
  refine ⟨h.classes, h.stars, h.slash, h.jumps, h.covers, h.chars, h.places, h.rst, h.rss, h.rjb, h.ccs, h.clen, h.sorted, fun i hi => ?_, h.plen, ⟨key _ h.gS.1 l4, l4⟩, ⟨key _ h.sS.1 l1, key _ h.sS.2.1 l2, key _ h.sS.2.2 l3⟩, ⟨key _ h.cS.1 l5, l5⟩, ⟨key _ h.iS.1 l6, l6⟩⟩
  obtain ⟨a, cap', e1, e2, e3⟩ := h.elem i hi
  exact ⟨a, cap', e1, e2, fun k hk => by
    obtain ⟨ab, f1, f2, f3, f4⟩ := e3 k hk
    exact ⟨ab, f1, key _ f2 f3, f3, f4⟩⟩

/-- three rows made one after the other -/
theorem three (v : World) (n p : Nat) (h0 : v.heap.size ≤ p) (h1 : p < v.heap.size + 3) :
    Row (((v.alloc (.cells (madeCells #[Value.int .u64 0] n) 30)).alloc (.cells (madeCells #[Value.int .u64 0] n) 30)).alloc (.cells (madeCells #[Value.int .u64 0] n) 30)) .u64 30 p n (List.replicate n 0) := by
  have e1 := Row.made v .u64 30 n
  have e2 := Row.made (v.alloc (.cells (madeCells #[Value.int .u64 0] n) 30)) .u64 30 n
  have e3 := Row.made ((v.alloc (.cells (madeCells #[Value.int .u64 0] n) 30)).alloc (.cells (madeCells #[Value.int .u64 0] n) 30)) .u64 30 n
  have s1 : (v.alloc (.cells (madeCells #[Value.int .u64 0] n) 30)).heap.size = v.heap.size + 1 := by simp
  have s2 : ((v.alloc (.cells (madeCells #[Value.int .u64 0] n) 30)).alloc (.cells (madeCells #[Value.int .u64 0] n) 30)).heap.size = v.heap.size + 2 := by simp
  rw [s1] at e2
  rw [s2] at e3
  have : p = v.heap.size ∨ p = v.heap.size + 1 ∨ p = v.heap.size + 2 := by omega
  rcases this with rfl | rfl | rfl
  · exact (e1.alloc _).alloc _
  · exact e2.alloc _
  · exact e3

end Gl
end Go.Proofs.Qxb6615024aDoor
