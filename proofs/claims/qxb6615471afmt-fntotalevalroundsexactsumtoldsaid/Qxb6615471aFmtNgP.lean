/-
  THE OPPOSITE IN TWO's COMPLEMENT, with no Go in sight.
-/
import Derived.Test.Qxb6615471aFmtCarP
import Derived.Test.Qxb6615471aFmtNeg
namespace Go.Proofs.Qxb6615471aFmt
set_option linter.unusedVariables false
namespace Fl

theorem Carried.bounds {zs : List Int} (c : Carried zs) (h : zs ≠ []) : -(4294967296 ^ zs.length) ≤ 2 * val zs ∧ 2 * val zs < 4294967296 ^ zs.length := by
  have hl : 0 < zs.length := List.length_pos_iff.2 h
  have lo := c.lower
  have la := c.last
  rw [val_last zs h]
  have e : (4294967296 : Int) ^ zs.length = 4294967296 ^ (zs.length - 1) * 4294967296 := by rw [← Int.pow_succ]; congr 1; omega
  rw [e]
  have hp : (0 : Int) < 4294967296 ^ (zs.length - 1) := Int.pow_pos (by decide)
  have m1 : 4294967296 ^ (zs.length - 1) * (-2147483648) ≤ 4294967296 ^ (zs.length - 1) * zs.getD (zs.length - 1) 0 := Int.mul_le_mul_of_nonneg_left (by omega) (by omega)
  have m2 : 4294967296 ^ (zs.length - 1) * zs.getD (zs.length - 1) 0 ≤ 4294967296 ^ (zs.length - 1) * 2147483647 := Int.mul_le_mul_of_nonneg_left (by omega) (by omega)
  generalize (4294967296 : Int) ^ (zs.length - 1) = P at *
  generalize P * zs.getD (zs.length - 1) 0 = Q at *
  omega

/-- the third loop of zzNegate -/
structure TC (ws : List Int) (n k : Nat) (c : Int) (wk : List Int) : Prop where
  len : wk.length = n + 1
  c01 : c = 0 ∨ c = 1
  low : ∀ j, j < k → 0 ≤ wk.getD j 0 ∧ wk.getD j 0 < 4294967296
  high : ∀ j, k ≤ j → wk.getD j 0 = ws.getD j 0
  sum : val (wk.take k) + 4294967296 ^ k * c = 4294967296 ^ k - val (ws.take k)

theorem tc_start (ws : List Int) (n : Nat) (h : ws.length = n + 1) : TC ws n 0 1 ws := ⟨h, Or.inr rfl, fun j hj => absurd hj (Nat.not_lt_zero _), fun _ _ => rfl, by simp [val]⟩

theorem tc_step {ws wk : List Int} {n k : Nat} {c : Int} (h : TC ws n k c wk) (hl : ws.length = n + 1) (hk : k < n + 1) (hw : 0 ≤ ws.getD k 0 ∧ ws.getD k 0 < 4294967296) :
    TC ws n (k + 1) ((4294967295 - ws.getD k 0 + c) / 4294967296) (wk.set k ((4294967295 - ws.getD k 0 + c) % 4294967296)) := by
  have hlen := h.len
  have hc := h.c01
  refine ⟨by simpa using hlen, by omega, fun j hj => ?_, fun j hj => ?_, ?_⟩
  · by_cases e : j = k
    · rw [e, getD_set_eq _ _ _ (by omega)]
      omega
    · rw [getD_set_ne _ _ _ _ (by omega)]
      exact h.low j (by omega)
  · rw [getD_set_ne _ _ _ _ (by omega)]
    exact h.high j (by omega)
  · have s := h.sum
    have e1 : (wk.set k ((4294967295 - ws.getD k 0 + c) % 4294967296)).take k = wk.take k := by
      rw [List.take_set]
      apply List.set_eq_of_length_le
      rw [List.length_take]
      omega
    rw [val_take_succ _ _ (by simp; omega), val_take_succ ws _ (by omega), e1, getD_set_eq _ _ _ (by omega), Int.pow_succ]
    generalize ws.getD k 0 = y at *
    have hd := Int.emod_add_mul_ediv (4294967295 - y + c) 4294967296
    generalize (4294967295 - y + c) % 4294967296 = r at *
    generalize (4294967295 - y + c) / 4294967296 = q at *
    generalize (4294967296 : Int) ^ k = P at *
    have e2 : P * r + P * 4294967296 * q = P * (4294967295 - y + c) := by
      rw [Int.mul_assoc, ← Int.mul_add, hd]
    have e3 : P * (4294967295 - y + c) = P * 4294967296 - P - P * y + P * c := by
      rw [Int.mul_add, Int.mul_sub, show P * 4294967295 = P * 4294967296 - P by omega]
    omega

/-- the words of the opposite -/
theorem opp_val (zs ext ws wk out : List Int) (n : Nat) (c : Int) (hn : 1 ≤ n) (hl : zs.length = n) (cz : Carried zs)
    (he : ext = cov zs) (hws : ws.length = n + 1) (hwe : ∀ j, j < n + 1 → ws.getD j 0 = ext.getD j 0 % 4294967296) (tc : TC ws n (n + 1) c wk)
    (hol : out.length = n + 1) (ho : ∀ j, j < n → out.getD j 0 = wk.getD j 0) (hon : out.getD n 0 = if wk.getD n 0 < 2147483648 then wk.getD n 0 else wk.getD n 0 - 4294967296) :
    Carried out ∧ val out = -val zs := by
  have hne : zs ≠ [] := by
    intro e
    rw [e] at hl
    simp at hl
    omega
  have hone : out ≠ [] := by
    intro e
    rw [e] at hol
    simp at hol
  have hwl := tc.len
  have wn := tc.low n (by omega)
  have co : Carried out := by
    refine ⟨fun i hi => ?_, ?_⟩
    · rw [ho i (by omega)]
      exact tc.low i (by omega)
    · rw [hol, show n + 1 - 1 = n from rfl, hon]
      split <;> omega
  refine ⟨co, ?_⟩
  -- out against wk
  have v1 : val out = val wk - (if wk.getD n 0 < 2147483648 then 0 else 4294967296 ^ (n + 1)) := by
    have e1 := val_take_succ out n (by omega)
    have e2 := val_take_succ wk n (by omega)
    rw [show n + 1 = out.length from hol.symm, List.take_length] at e1
    rw [show n + 1 = wk.length from hwl.symm, List.take_length] at e2
    have e3 : out.take n = wk.take n := by
      apply List.ext_getElem?
      intro j
      by_cases hj : j < n
      · have := ho j hj
        rw [List.getD_eq_getElem?_getD, List.getD_eq_getElem?_getD] at this
        rw [List.getElem?_take, List.getElem?_take, if_pos hj, if_pos hj]
        rw [List.getElem?_eq_getElem (by omega), List.getElem?_eq_getElem (by omega)] at this ⊢
        simpa using this
      · rw [List.getElem?_take, List.getElem?_take, if_neg hj, if_neg hj]
    rw [e1, e2, e3, hon, Int.pow_succ]
    split
    · omega
    · rw [Int.mul_sub]
      omega
  -- wk against ws
  have v2 : val wk + 4294967296 ^ (n + 1) * c = 4294967296 ^ (n + 1) - val ws := by
    have := tc.sum
    rw [show wk.take (n + 1) = wk by rw [← hwl, List.take_length], show ws.take (n + 1) = ws by rw [← hws, List.take_length]] at this
    exact this
  -- ws against zs
  have v3 : val ws = val zs ∨ val ws = val zs + 4294967296 ^ (n + 1) := by
    have hve : val ext = val zs := by rw [he]; exact val_cov zs hne
    have hel : ext.length = n + 1 := by
      rw [he]
      unfold cov
      split <;> simp [hl]
    have last := cz.last
    rw [hl] at last
    have elow : ∀ j, j < n → 0 ≤ ext.getD j 0 ∧ ext.getD j 0 < 4294967296 := by
      intro j hj
      rw [he]
      unfold cov
      rw [hl]
      split
      · rw [List.getD_eq_getElem?_getD, List.getElem?_append_left (by simp; omega), ← List.getD_eq_getElem?_getD]
        by_cases e : j = n - 1
        · rw [e, getD_set_eq _ _ _ (by omega)]
          omega
        · rw [getD_set_ne _ _ _ _ (by omega)]
          exact cz.low j (by omega)
      · rw [List.getD_eq_getElem?_getD, List.getElem?_append_left (by omega), ← List.getD_eq_getElem?_getD]
        by_cases e : j = n - 1
        · rw [e]
          omega
        · exact cz.low j (by omega)
    have elast : ext.getD n 0 = 0 ∨ ext.getD n 0 = -1 := by
      rw [he]
      unfold cov
      rw [hl]
      split
      · right
        rw [List.getD_eq_getElem?_getD, List.getElem?_append_right (by simp; omega)]
        simp [hl]
      · left
        rw [List.getD_eq_getElem?_getD, List.getElem?_append_right (by omega)]
        simp [hl]
    have e1 := val_take_succ ws n (by omega)
    have e2 := val_take_succ ext n (by omega)
    rw [show n + 1 = ws.length from hws.symm, List.take_length] at e1
    rw [show n + 1 = ext.length from hel.symm, List.take_length] at e2
    have e3 : ws.take n = ext.take n := by
      apply List.ext_getElem?
      intro j
      by_cases hj : j < n
      · have h1 := hwe j (by omega)
        have h2 := elow j hj
        rw [Int.emod_eq_of_lt h2.1 h2.2] at h1
        rw [List.getD_eq_getElem?_getD, List.getD_eq_getElem?_getD] at h1
        rw [List.getElem?_take, List.getElem?_take, if_pos hj, if_pos hj]
        rw [List.getElem?_eq_getElem (by omega), List.getElem?_eq_getElem (by omega)] at h1 ⊢
        simpa using h1
      · rw [List.getElem?_take, List.getElem?_take, if_neg hj, if_neg hj]
    have h1 := hwe n (by omega)
    rw [← hve, e1, e2, e3, h1, Int.pow_succ]
    rcases elast with e | e
    · left
      rw [e]
      simp
    · right
      rw [e]
      show _ + _ * ((-1 : Int) % 4294967296) = _
      rw [show (-1 : Int) % 4294967296 = 4294967295 by decide]
      omega
  have b1 := co.bounds hone
  have b2 := cz.bounds hne
  rw [hol] at b1
  rw [hl] at b2
  have hP : (4294967296 : Int) ^ (n + 1) = 4294967296 ^ n * 4294967296 := Int.pow_succ _ _
  have hPp : (0 : Int) < 4294967296 ^ n := Int.pow_pos (by decide)
  rw [hP] at v1 v2 v3 b1
  generalize (4294967296 : Int) ^ n = P at *
  have hc := tc.c01
  rcases hc with rfl | rfl <;> rcases v3 with e | e <;> split at v1 <;> omega

end Fl
end Go.Proofs.Qxb6615471aFmt
