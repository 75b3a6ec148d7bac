/-
  WHAT STANDS IN A STEP, and what it leaves.
-/
import Derived.Test.Qxb6615024aDoorGlob
import Derived.Test.Qxb6615024aDoorNext
import Derived.Deep.DeepCutAuto
namespace Go.Proofs.Qxb6615024aDoor
open Go.RowKit
set_option linter.unusedVariables false
namespace Gl

theorem hide {p : Prop} (h : p) : Hid p := h

theorem and0 (x : Int) (h : 0 ≤ x ∧ x < 18446744073709551616) : bits .and .u64 x 0 = 0 := by
  obtain ⟨X, rfl⟩ := Int.eq_ofNat_of_zero_le h.1
  exact and_zero X (by omega)

/-- what stands throughout a step -/
structure Cx where
  w : World
  g : Nat
  st : Nat
  ss : Nat
  jb : Nat
  cb : Nat
  cap : Nat
  ip : Nat
  ipc : Nat
  n : Nat
  ns : Nat
  nm : Nat
  xs : Nat
  xm : Nat
  mm : Nat
  F : Nat
  l : Int
  c : Int
  cs : List Int
  pl : Nat → List Nat
  zn : List Int
def Cx.S (X : Cx) : List Nat := [X.xs, X.xm, X.mm]

structure Cx.Ok (X : Cx) : Prop where
  hn : X.n ≤ 4096
  hF : X.F ≤ X.n
  hl0 : -1 ≤ X.l
  hl1 : X.l < X.n
  hzn : X.zn.length = X.n
  hwn : WF X.zn
  d1 : X.ns ∉ X.S
  d2 : X.nm ∉ X.S
  d3 : X.xs ≠ X.xm
  d4 : X.xs ≠ X.mm
  d5 : X.xm ≠ X.mm
  lS : ∀ b ∈ X.S, b < X.w.heap.size

/-- the memory in the course of a step: next's first and last, its words, matched's words -/
structure SS (X : Cx) (f2 l2 : Int) (zx zm : List Int) (W : World) : Prop where
  pg : PG W X.S X.g X.st X.ss X.jb X.cb X.cap X.ip X.ipc X.n X.cs X.pl
  ns : SetAt W X.ns X.nm X.n X.F X.l
  nm : Row W .u64 30 X.nm X.n X.zn
  xs : SetAt W X.xs X.xm X.n f2 l2
  xm : Row W .u64 30 X.xm X.n zx
  mm : Row W .u64 30 X.mm X.n zm
  lx : zx.length = X.n
  lm : zm.length = X.n
  wx : WF zx
  wm : WF zm
  cg : W.cell? ⟨X.w.heap.size, 0, none⟩ = some (.pointer (some ⟨X.g, 0, none⟩))
  cc : W.cell? ⟨X.w.heap.size + 1, 0, none⟩ = some (.int .i32 X.c)
  kept : Kept X.w W X.S
  big : X.w.heap.size + 2 ≤ W.heap.size

section
variable {X : Cx} {f2 l2 : Int} {zx zm : List Int} {W W' : World}
theorem SS.drew (h : SS X f2 l2 zx zm W) : SS X f2 l2 zx zm W.drew :=
  ⟨h.pg.kept (Kept.refl W _).drew, h.ns.drew, h.nm.drew, h.xs.drew, h.xm.drew, h.mm.drew, h.lx, h.lm, h.wx, h.wm, h.cg, h.cc, h.kept.drew, h.big⟩
theorem SS.drewN (h : SS X f2 l2 zx zm W) (q : Nat) : SS X f2 l2 zx zm (W.drewN q) :=
  ⟨h.pg.kept ((Kept.refl W _).drewN q), h.ns, h.nm, h.xs, h.xm, h.mm, h.lx, h.lm, h.wx, h.wm, h.cg, h.cc, h.kept.drewN q, h.big⟩
/-- the three that may turn have turned -/
theorem SS.upd (h : SS X f2 l2 zx zm W) (ok : X.Ok) {f2' l2' : Int} {zx' zm' : List Int} (k : Kept W W' X.S) (hxs : SetAt W' X.xs X.xm X.n f2' l2') (hxm : Row W' .u64 30 X.xm X.n zx') (hmm : Row W' .u64 30 X.mm X.n zm')
    (hlx : zx'.length = X.n) (hlm : zm'.length = X.n) (hwx : WF zx') (hwm : WF zm') : SS X f2' l2' zx' zm' W' := by
  have hs := k.size
  have hb := h.big
  have l0 : X.w.heap.size ∉ X.S := fun m => by have := ok.lS _ m; omega
  have l1 : X.w.heap.size + 1 ∉ X.S := fun m => by have := ok.lS _ m; omega
  exact ⟨h.pg.kept k, h.ns.kept k ok.d1, h.nm.kept k ok.d2, hxs, hxm, hmm, hlx, hlm, hwx, hwm, (k.cell (p := ⟨X.w.heap.size, 0, none⟩) (show X.w.heap.size < W.heap.size by omega) l0).trans h.cg, (k.cell (p := ⟨X.w.heap.size + 1, 0, none⟩) (show X.w.heap.size + 1 < W.heap.size by omega) l1).trans h.cc, h.kept.trans k, by omega⟩
end

/-- place q is in now, and its character is c -/
def Cx.Hit (X : Cx) (q : Nat) : Prop := bo X.zn q = true ∧ ∃ i, i < X.cs.length ∧ X.cs.getD i 0 = X.c ∧ q ∈ X.pl i

theorem hit_of (X : Cx) (r : Nat) (hr : r < X.cs.length) (hc : X.cs.getD r 0 = X.c) (hs : ∀ i j, i < j → j < X.cs.length → X.cs.getD i 0 < X.cs.getD j 0) (q : Nat) : X.Hit q ↔ (bo X.zn q = true ∧ q ∈ X.pl r) := by
  constructor
  · rintro ⟨h1, i, hi, hic, hq⟩
    have : i = r := by
      rcases Nat.lt_trichotomy i r with h | h | h
      · have := hs i r h hr; omega
      · exact h
      · have := hs r i h hi; omega
    subst this
    exact ⟨h1, hq⟩
  · rintro ⟨h1, h2⟩
    exact ⟨h1, r, hr, hc, h2⟩

theorem hit_none (X : Cx) (r : Nat) (hf : ¬ (r < X.cs.length ∧ X.cs.getD r 0 = X.c)) (h1 : ∀ t, t < r → X.cs.getD t 0 < X.c) (h2 : ∀ t, r ≤ t → t < X.cs.length → X.c ≤ X.cs.getD t 0)
    (hs : ∀ i j, i < j → j < X.cs.length → X.cs.getD i 0 < X.cs.getD j 0) (q : Nat) : ¬ X.Hit q := by
  rintro ⟨_, i, hi, hic, _⟩
  rcases Nat.lt_trichotomy i r with h | h | h
  · have := h1 i h; omega
  · subst h; exact hf ⟨hi, hic⟩
  · have := hs r i h hi
    have := h2 r (Nat.le_refl _) (by omega)
    omega

theorem read_hit (X : Cx) (r : Nat) (zk : List Int) (hl : zk.length = X.n) (hpl : ∀ p ∈ X.pl r, p + 1 < 64 * X.n) (hp : ∀ q, X.Hit q ↔ (bo X.zn q = true ∧ q ∈ X.pl r)) (q : Nat) :
    bo (rd X.zn zk (X.pl r)) q = true ↔ (bo zk q = true ∨ X.Hit q) := by
  rw [bo_rd _ _ _ _ (fun p h => by have := hpl p h; omega), hp q]
  simp only [Bool.or_eq_true, Bool.and_eq_true, decide_eq_true_eq]
  constructor
  · rintro (h | ⟨h1, h2⟩)
    · exact Or.inl h
    · exact Or.inr ⟨h2, h1⟩
  · rintro (h | ⟨h1, h2⟩)
    · exact Or.inl h
    · exact Or.inr ⟨h2, h1⟩

theorem shl1 (m y : Nat) (h : y = m * 2 % 18446744073709551616) : IntKind.u64.wrap ((m : Int) * 2) = (y : Int) := by
  rw [IntKind.wrap_u64]
  omega

theorem wrap32_small (x : Int) (h0 : 0 ≤ x) (h1 : x < 2147483648) : IntKind.i32.wrap x = x := by
  simp [IntKind.wrap, IntKind.bits, IntKind.signed]
  omega
theorem top_no (m : Nat) (h : m < 18446744073709551616) (e : m.testBit 63 = false) : (m : Int) / 9223372036854775808 = 0 := by
  rw [top_bit m h] at e
  have := of_decide_eq_false e
  omega
theorem top_yes (m : Nat) (h : m < 18446744073709551616) (e : m.testBit 63 = true) : (m : Int) / 9223372036854775808 = 1 := by
  rw [top_bit m h] at e
  have := of_decide_eq_true e
  omega
theorem set_getD_self (zs : List Int) (k : Nat) : zs.set k (zs.getD k 0) = zs := by
  apply List.ext_getElem?
  intro i
  by_cases e : k = i
  · subst e
    by_cases h : k < zs.length
    · simp [List.getD_eq_getElem?_getD, h]
    · simp [h]
  · rw [List.getElem?_set_ne e]

theorem wf_rep (n : Nat) : WF (List.replicate n 0) := by
  intro x hx
  have := List.eq_of_mem_replicate hx
  subst this
  exact ⟨by decide, by decide⟩

theorem zr_start (F : Nat) (zm : List Int) : ∀ q, bo zm q = (bo zm q && !decide (F ≤ q / 64 ∧ q / 64 < F)) := by
  intro q
  have : ¬ (F ≤ q / 64 ∧ q / 64 < F) := by omega
  rw [decide_eq_false this]
  simp

theorem zr_step (F k : Nat) (zk zm : List Int) (hk : F ≤ k) (hl : k < zk.length) (h : ∀ q, bo zk q = (bo zm q && !decide (F ≤ q / 64 ∧ q / 64 < k))) : ∀ q, bo (zk.set k 0) q = (bo zm q && !decide (F ≤ q / 64 ∧ q / 64 < k + 1)) := by
  intro q
  rw [bo_zero _ _ _ hl, h q]
  by_cases e : q / 64 = k
  · have c1 : F ≤ q / 64 ∧ q / 64 < k + 1 := by omega
    rw [decide_eq_true c1, decide_eq_true e]
    simp
  · rw [decide_eq_false e]
    by_cases c2 : F ≤ q / 64 ∧ q / 64 < k
    · have c1 : F ≤ q / 64 ∧ q / 64 < k + 1 := by omega
      rw [decide_eq_true c1, decide_eq_true c2]
      simp
    · have c1 : ¬ (F ≤ q / 64 ∧ q / 64 < k + 1) := by omega
      rw [decide_eq_false c1, decide_eq_false c2]
      simp

/-- WHAT A STEP LEAVES -/
def StepOut (X : Cx) (zm : List Int) (w' : World) (r : Int) : Prop :=
  ∃ (zm' zx' : List Int) (L : Int) (f' : Nat) (l' : Int), r = l' - X.F + 1 ∧ Row w' .u64 30 X.mm X.n zm' ∧ zm'.length = X.n ∧ WF zm' ∧
    (∀ q, bo zm' q = true ↔ ((bo zm q = true ∧ ¬ (X.F ≤ q / 64 ∧ ((q / 64 : Nat) : Int) ≤ X.l)) ∨ X.Hit q)) ∧
    SetAt w' X.xs X.xm X.n f' l' ∧ Row w' .u64 30 X.xm X.n zx' ∧ zx'.length = X.n ∧ WF zx' ∧ (∀ q, bo zx' q = true ↔ (1 ≤ q ∧ X.Hit (q - 1))) ∧ Kept X.w w' X.S ∧
    X.l ≤ L ∧ L < X.n ∧ (L = X.l ∨ (L = X.l + 1 ∧ ∃ q, X.Hit q)) ∧ (∀ q, X.Hit q → (((q + 1) / 64 : Nat) : Int) ≤ L) ∧ X.F ≤ f' ∧ (f' : Int) ≤ max (X.F : Int) (L + 1) ∧ l' ≤ L ∧ min L ((f' : Int) - 1) ≤ l' ∧
    (∀ i : Nat, X.F ≤ i → i < f' → zx'.getD i 0 = 0) ∧ (∀ i : Nat, l' < i → (i : Int) ≤ L → zx'.getD i 0 = 0) ∧ ((f' : Int) ≤ L → zx'.getD f' 0 ≠ 0) ∧ ((f' : Int) ≤ l' → zx'.getD l'.toNat 0 ≠ 0)

end Gl
end Go.Proofs.Qxb6615024aDoor
