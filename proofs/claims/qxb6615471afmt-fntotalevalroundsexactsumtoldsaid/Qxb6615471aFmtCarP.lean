/-
  CARRYING, with no Go in sight.
-/
import Derived.Test.Qxb6615471aFmtDig
import Derived.Test.Qxb6615471aFmtBits
namespace Go.Proofs.Qxb6615471aFmt
set_option linter.unusedVariables false
namespace Fl

/-- the first loop: the digits below k are carried; digit k has had its carry; those above are as they were -/
structure CI (ys : List Int) (n k : Nat) (zk : List Int) : Prop where
  len : zk.length = n + 1
  val : Fl.val zk = Fl.val ys
  low : ∀ j, j < k → 0 ≤ zk.getD j 0 ∧ zk.getD j 0 < 4294967296
  here : zk.getD k 0 = ys.getD k 0 ∨ zk.getD k 0 = ys.getD k 0 - 1
  high : ∀ j, k < j → zk.getD j 0 = ys.getD j 0

theorem ci_start (ys : List Int) (n : Nat) (h : ys.length = n + 1) : CI ys n 0 ys := ⟨h, rfl, fun j hj => absurd hj (Nat.not_lt_zero _), Or.inl rfl, fun _ _ => rfl⟩

theorem ci_step {ys zk : List Int} {n k : Nat} (h : CI ys n k zk) (hk : k < n) (c : Int) (hc : c = 0 ∨ c = -1) (hd : 0 ≤ zk.getD k 0 - c * 4294967296 ∧ zk.getD k 0 - c * 4294967296 < 4294967296) :
    CI ys n (k + 1) ((zk.set k (zk.getD k 0 - c * 4294967296)).set (k + 1) (zk.getD (k + 1) 0 + c)) := by
  have hl := h.len
  refine ⟨by simp [hl], ?_, ?_, ?_, ?_⟩
  · rw [val_set _ _ _ (by simp; omega), val_set _ _ _ (by omega), getD_set_ne _ _ _ _ (by omega), Int.pow_succ, ← h.val]
    have e : zk.getD k 0 - c * 4294967296 - zk.getD k 0 = -(4294967296 * c) := by omega
    rw [e, show zk.getD (k + 1) 0 + c - zk.getD (k + 1) 0 = c by omega, Int.mul_assoc, Int.mul_neg]
    omega
  · intro j hj
    rw [getD_set_ne _ _ _ _ (by omega)]
    by_cases e : j = k
    · rw [e, getD_set_eq _ _ _ (by omega)]
      exact hd
    · rw [getD_set_ne _ _ _ _ (by omega)]
      exact h.low j (by omega)
  · rw [getD_set_eq _ _ _ (by simp; omega), h.high (k + 1) (by omega)]
    rcases hc with e | e
    · left; omega
    · right; omega
  · intro j hj
    rw [getD_set_ne _ _ _ _ (by omega), getD_set_ne _ _ _ _ (by omega)]
    exact h.high j (by omega)

/-- the third loop: the first L + 1 digits are carried and stand for the whole -/
structure TR (v : Int) (n L : Nat) (zl : List Int) : Prop where
  len : zl.length = n + 1
  le : L ≤ n
  car : Carried (zl.take (L + 1))
  val : Fl.val (zl.take (L + 1)) = v

theorem TR.digit {v : Int} {n L : Nat} {zl : List Int} (h : TR v n L zl) : (zl.take (L + 1)).length = L + 1 := by
  have := h.len
  have := h.le
  rw [List.length_take]
  omega

theorem tr_start {ys zk : List Int} {n : Nat} (h : CI ys n n zk) (h1 : -2 ≤ zk.getD n 0) (h2 : zk.getD n 0 ≤ 2) : TR (Fl.val ys) n n zk := by
  have hl := h.len
  have e : zk.take (n + 1) = zk := by rw [← hl, List.take_length]
  refine ⟨hl, Nat.le_refl _, ?_, by rw [e]; exact h.val⟩
  rw [e]
  refine ⟨fun i hi => h.low i (by omega), ?_⟩
  rw [hl, show n + 1 - 1 = n from rfl]
  omega

theorem TR.top {v : Int} {n L : Nat} {zl : List Int} (h : TR v n L zl) : -2147483648 ≤ zl.getD L 0 ∧ zl.getD L 0 < 2147483648 := by
  have := h.car.last
  rw [h.digit, show L + 1 - 1 = L from rfl, take_getD _ _ _ (by omega)] at this
  exact this

theorem TR.below {v : Int} {n L : Nat} {zl : List Int} (h : TR v n (L + 1) zl) (i : Nat) (hi : i ≤ L) : 0 ≤ zl.getD i 0 ∧ zl.getD i 0 < 4294967296 := by
  have := h.car.low i (by rw [h.digit]; omega)
  rw [take_getD _ _ _ (by omega)] at this
  exact this

theorem tr_zero {v : Int} {n L : Nat} {zl : List Int} (h : TR v n (L + 1) zl) (h0 : zl.getD (L + 1) 0 = 0) (hb : zl.getD L 0 < 2147483648) : TR v n L zl := by
  have hl := h.len
  have hle := h.le
  have d : (zl.take (L + 1)).length = L + 1 := by rw [List.length_take]; omega
  refine ⟨hl, by omega, ⟨fun i hi => ?_, ?_⟩, ?_⟩
  · rw [d] at hi
    rw [take_getD _ _ _ (by omega)]
    exact h.below i (by omega)
  · rw [d, show L + 1 - 1 = L from rfl, take_getD _ _ _ (by omega)]
    have := h.below L (Nat.le_refl _)
    omega
  · have := h.val
    rw [val_take_succ _ _ (by omega), h0] at this
    omega

theorem take_set (zl : List Int) (k L : Nat) (x : Int) : (zl.set L x).take k = (zl.take k).set L x := by
  rw [List.take_set]

theorem tr_neg {v : Int} {n L : Nat} {zl : List Int} (h : TR v n (L + 1) zl) (h0 : zl.getD (L + 1) 0 = -1) (hb : 2147483648 ≤ zl.getD L 0) : TR v n L (zl.set L (zl.getD L 0 - 4294967296)) := by
  have hl := h.len
  have hle := h.le
  have d : ((zl.set L (zl.getD L 0 - 4294967296)).take (L + 1)).length = L + 1 := by rw [List.length_take, List.length_set]; omega
  have hbl := h.below L (Nat.le_refl _)
  refine ⟨by simpa using hl, by omega, ⟨fun i hi => ?_, ?_⟩, ?_⟩
  · rw [d] at hi
    rw [take_getD _ _ _ (by omega), getD_set_ne _ _ _ _ (by omega)]
    exact h.below i (by omega)
  · rw [d, show L + 1 - 1 = L from rfl, take_getD _ _ _ (by omega), getD_set_eq _ _ _ (by omega)]
    omega
  · have := h.val
    rw [val_take_succ _ _ (by omega), h0, Int.pow_succ] at this
    have d2 : (zl.take (L + 1)).length = L + 1 := by rw [List.length_take]; omega
    rw [take_set, val_set _ _ _ (by omega), take_getD _ _ _ (by omega), show zl.getD L 0 - 4294967296 - zl.getD L 0 = -4294967296 by omega]
    omega

theorem tr_first {v : Int} {n : Nat} {zl : List Int} (h : TR v n 0 zl) (hv : v ≠ 0) : zl.getD 0 0 ≠ 0 := by
  intro h0
  apply hv
  have hl := h.len
  have := h.val
  rw [val_take_succ _ _ (by omega), h0] at this
  simp [Fl.val] at this
  exact this.symm

/-- the digits of the opposite, before they are carried -/
theorem val_map_neg (zs : List Int) : val (zs.map (fun d => -d)) = -val zs := by
  induction zs with
  | nil => rfl
  | cons d ds ih =>
    simp only [List.map_cons, val, ih]
    omega

end Fl
end Go.Proofs.Qxb6615471aFmt
