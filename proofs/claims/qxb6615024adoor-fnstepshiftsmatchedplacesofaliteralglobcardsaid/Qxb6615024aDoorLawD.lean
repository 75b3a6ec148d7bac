/-
  THE STEP, as the law calls it.
-/
import Derived.Test.Qxb6615024aDoorLawC
namespace Go.Proofs.Qxb6615024aDoor
open Go.RowKit
set_option linter.unusedVariables false
namespace Gl

/-- what stands when the step is done -/
structure En (w : World) (n xs xm mm nb mb : Nat) (wf wl : Int) (wn wm : List Int) (W : World) : Prop where
  sx : SetAt W xs xm n wf wl
  rx : Row W .u64 30 xm n wn
  rm : Row W .u64 30 mm n wm
  rwn : Row W .u64 30 nb n wn
  rwm : Row W .u64 30 mb n wm
  lwn : wn.length = n
  lwm : wm.length = n
  kept : Kept w W []

theorem En.drewN {w W : World} {n xs xm mm nb mb : Nat} {wf wl : Int} {wn wm : List Int} (h : En w n xs xm mm nb mb wf wl wn wm W) (q : Nat) : En w n xs xm mm nb mb wf wl wn wm (W.drewN q) := by
  have k : Kept W (W.drewN q) [] := (Kept.refl _ _).drewN q
  exact ⟨h.sx.kept k (by simp), h.rx.kept k (by simp), h.rm.kept k (by simp), h.rwn.kept k (by simp), h.rwm.kept k (by simp), h.lwn, h.lwm, h.kept.trans k⟩

theorem law_step (w u : World) (a : Option Addr) (m n : Nat) (zs zn zx zm wn wm cs : List Int) (nm xm mm nb mb ns xs g p1 p2 p3 cb cap ip ipc F F2 : Nat) (l l2 c lo hi wf wl : Int)
    (fx : Fx w a m n zs zn zx zm nm xm mm nb mb) (st : St w a m n zs zn zx zm nm xm mm nb mb wn wm u) (pg : PG u [xs, xm, mm] g p1 p2 p3 cb cap ip ipc n cs (fun i => pos zs (cs.getD i 0) zs.length))
    (sn : SetAt u ns nm n F l) (sx : SetAt u xs xm n F2 l2) (hI : InR zn n F l) (hI2 : InR zx n F2 l2) (hK : WM zs zn zm c F l m wm ∧ WN zs zn c m wn) (hL : LH wn n lo hi)
    (hF : (0 ≤ lo ∧ wf = lo ∧ wl = hi) ∨ (lo < 0 ∧ wl = l ∧ wf = max (l + 1) (F : Int))) (hcs : ∀ x, Has cs x ↔ Has zs x) (h1 : mb < ns) (h2 : ns < xs) :
    Calls Tryd.prog 11 #[.pointer (some ⟨g, 0, none⟩), .pointer (some ⟨ns, 0, none⟩), .pointer (some ⟨xs, 0, none⟩), .slice (some ⟨mm, 0, none⟩) n n, .int .i32 c] u
      fun e w' => e = .returned (.int .i64 (wl - F + 1)) ∧ En w n xs xm mm nb mb wf wl wn wm w' := by
  have d1 := fx.d1
  have d2 := fx.d2
  have d3 := fx.d3
  have d4 := fx.d4
  have d5 := fx.d5
  obtain ⟨i1, i2, i3, i4, i5⟩ := hI
  obtain ⟨j1, j2, j3, j4, j5⟩ := hI2
  obtain ⟨X, hX⟩ : ∃ X : Cx, X = ⟨u, g, p1, p2, p3, cb, cap, ip, ipc, n, ns, nm, xs, xm, mm, F, l, c, cs, (fun i => pos zs (cs.getD i 0) zs.length), zn⟩ := ⟨_, rfl⟩
  have lx := st.rx.lt
  have lm := st.rm.lt
  have lxs := sx.lt
  have ok : X.Ok := by
    subst hX
    refine ⟨fx.n4, by show F ≤ n; omega, i3, i4, fx.lzn, fx.wzn, ?_, ?_, ?_, ?_, ?_, ?_⟩
    · show ns ∉ [xs, xm, mm]
      simp; omega
    · show nm ∉ [xs, xm, mm]
      simp; omega
    · show xs ≠ xm
      omega
    · show xs ≠ mm
      omega
    · show xm ≠ mm
      omega
    · show ∀ b ∈ [xs, xm, mm], b < u.heap.size
      simp; omega
  have hhit : ∀ q, X.Hit q ↔ Hp zs X.zn X.c q := hit_plain X zs (fun i => by subst hX; rfl) (by subst hX; exact hcs)
  have hHH : ∀ q, X.Hit q → X.F ≤ q / 64 ∧ ((q / 64 : Nat) : Int) ≤ X.l := by
    intro q hq
    have hp := (hhit q).1 hq
    subst hX
    obtain ⟨q1, _, q3⟩ := hp
    have q1' : q < zs.length := q1
    have q3' : bo zn q = true := q3
    have hN : n = m / 64 + 1 := fx.hn.out
    have lz := fx.lzs
    by_cases c1 : ((q / 64 : Nat) : Int) < F ∨ l < ((q / 64 : Nat) : Int)
    · have e := i5 (q / 64) (by omega) c1
      exfalso
      unfold bo at q3'
      rw [e] at q3'
      simp at q3'
    · show F ≤ q / 64 ∧ ((q / 64 : Nat) : Int) ≤ l
      omega
  refine zstep_any g ns xs mm n c u (fun e w' => e = .returned (.int .i64 (wl - F + 1)) ∧ En w n xs xm mm nb mb wf wl wn wm w') ?_ |>.mono ?_
  · have hstep := step_any X ok F2 l2 zx zm (by subst hX; exact pg) (by subst hX; exact sn) (by subst hX; exact st.rn) (by subst hX; exact sx) (by subst hX; exact st.rx) (by subst hX; show F2 ≤ n; omega) j3 (by subst hX; exact j4) (by subst hX; exact fx.lzx) (by subst hX; exact j5)
      (by subst hX; exact st.rm) (by subst hX; exact fx.lzm) fx.wzm hHH
    subst hX
    refine hstep.mono ?_
    rintro e w' ⟨r, rfl, out⟩
    have lz := fx.lzs
    obtain ⟨a1, a2, a3, a4, a5⟩ := step_plain _ zs zm wm wn w' r lo hi wf wl hhit out (by rw [lz]; exact hK.1) st.lwm st.wwm (by rw [lz]; exact hK.2) st.lwn st.wwn hL (by rw [lz]; exact fx.hn.out) hHH hF
    have a4' : Kept u w' [xs, xm, mm] := a4
    refine ⟨r, rfl, by rw [a5], a2, a3, a1, st.rwn.kept a4' (by simp; omega), st.rwm.kept a4' (by simp; omega), st.lwn, st.lwm, st.kept.then a4' (by simp; omega)⟩
  · rintro e w' ⟨r, rfl, hq⟩
    exact hq

end Gl
end Go.Proofs.Qxb6615024aDoor
