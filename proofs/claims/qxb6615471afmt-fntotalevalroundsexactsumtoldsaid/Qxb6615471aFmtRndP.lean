/-
  ROUNDING BIT BY BIT, and products and quotients by two, with no Go in sight.
-/
import Derived.Test.Qxb6615471aFmtWord
namespace Go.Proofs.Qxb6615471aFmt
set_option linter.unusedVariables false
set_option linter.unusedSimpArgs false
namespace Fl
open Ieee

/-- the place of the last digit that is kept of m * 2 ^ k -/
def lastOf (m : Nat) (k : Int) : Int := max (k + m.log2 - 52) (-1074)

theorem log2_lt53 (m : Nat) (h0 : m ≠ 0) (h : m < 2 ^ 53) : m.log2 ≤ 52 := by
  have : m.log2 < 53 := (Nat.log2_lt h0).2 h
  omega

theorem rne_exact (n : Nat) : R n 0 = n := R_zero n

theorem R_up (m : Nat) (e : Int) (h : 0 ≤ e) : R m e = m * 2 ^ e.toNat := by
  unfold R
  have : (-e).toNat = 0 := by omega
  rw [this, rne_zero]

/-- a number below 2 ^ 53 at a place from -1074 on is a float -/
theorem rung_small (m : Nat) (k : Int) (h0 : m ≠ 0) (h : m < 2 ^ 53) (hk : -1074 ≤ k) :
    rung m k = min ((lastOf m k + 1074).toNat * 2 ^ 52 + m * 2 ^ (k - lastOf m k).toNat) (2047 * 2 ^ 52) := by
  have hl := log2_lt53 m h0 h
  have : 0 ≤ k - lastOf m k := by unfold lastOf; omega
  show min ((lastOf m k + 1074).toNat * 2 ^ 52 + R m (k - lastOf m k)) (2047 * 2 ^ 52) = _
  rw [R_up _ _ this]

/-- what such a float reads as -/
theorem read_small (m : Nat) (k : Int) (h0 : m ≠ 0) (h : m < 2 ^ 53) (hk : -1074 ≤ k) (hf : rung m k < 2047 * 2 ^ 52) :
    double.read (rung m k) = .number false (m * 2 ^ (k - lastOf m k).toNat) (lastOf m k) := by
  have hl := log2_lt53 m h0 h
  obtain ⟨a1, a2⟩ := (Nat.log2_eq_iff h0).1 rfl
  rw [read_rung _ (by omega)]
  have hr := rung_small m k h0 h hk
  obtain ⟨la, hla⟩ : ∃ la, la = lastOf m k := ⟨_, rfl⟩
  rw [← hla] at hr ⊢
  have hla1 : -1074 ≤ la := by rw [hla]; unfold lastOf; omega
  have hlk : la ≤ k := by rw [hla]; unfold lastOf; omega
  have hmj : m * 2 ^ (k - la).toNat < 2 ^ 53 ∧ (la ≠ -1074 → 2 ^ 52 ≤ m * 2 ^ (k - la).toNat) := by
    by_cases c : la = -1074
    · refine ⟨?_, fun h => absurd c h⟩
      have hle : (k - la).toNat ≤ 52 - m.log2 := by
        have : k + m.log2 - 52 ≤ -1074 := by rw [hla] at c; unfold lastOf at c; omega
        omega
      have e : 2 ^ (m.log2 + 1) * 2 ^ (52 - m.log2) = 2 ^ 53 := by rw [← Nat.pow_add]; congr 1; omega
      have b1 : m * 2 ^ (k - la).toNat ≤ m * 2 ^ (52 - m.log2) := Nat.mul_le_mul_left _ (Nat.pow_le_pow_right (by decide) hle)
      have b2 : m * 2 ^ (52 - m.log2) < 2 ^ (m.log2 + 1) * 2 ^ (52 - m.log2) := Nat.mul_lt_mul_of_pos_right a2 (Nat.two_pow_pos _)
      omega
    · have e0 : (k - la).toNat = 52 - m.log2 := by
        have : la = k + m.log2 - 52 := by rw [hla] at c ⊢; unfold lastOf at c ⊢; omega
        omega
      rw [e0]
      have e : 2 ^ (m.log2 + 1) * 2 ^ (52 - m.log2) = 2 ^ 53 := by rw [← Nat.pow_add]; congr 1; omega
      have e' : 2 ^ m.log2 * 2 ^ (52 - m.log2) = 2 ^ 52 := by rw [← Nat.pow_add]; congr 1; omega
      have b2 : m * 2 ^ (52 - m.log2) < 2 ^ (m.log2 + 1) * 2 ^ (52 - m.log2) := Nat.mul_lt_mul_of_pos_right a2 (Nat.two_pow_pos _)
      have b3 : 2 ^ m.log2 * 2 ^ (52 - m.log2) ≤ m * 2 ^ (52 - m.log2) := Nat.mul_le_mul_right _ a1
      exact ⟨by omega, fun _ => by omega⟩
  generalize m * 2 ^ (k - la).toNat = M at *
  have hr' : rung m k = (la + 1074).toNat * 2 ^ 52 + M := by omega
  rw [hr'] at hf ⊢
  unfold rd
  by_cases c : (la + 1074).toNat * 2 ^ 52 + M < 2 ^ 52
  · rw [if_pos c]
    have : la = -1074 := by omega
    rw [this]
    congr 1
    omega
  · rw [if_neg c, if_pos hf]
    by_cases c2 : la = -1074
    · subst c2
      have z : (-1074 + 1074 : Int).toNat = 0 := by decide
      rw [z] at c ⊢
      congr 1
      · omega
      · omega
    · have := hmj.2 c2
      congr 1
      · omega
      · omega

theorem mul_two (m : Nat) (k : Int) (h0 : m ≠ 0) (h : m < 2 ^ 53) (hk : -1074 ≤ k) (hf : rung m k < 2047 * 2 ^ 52) : double.mul (rung m k) 4611686018427387904 = some (rung m (k + 1)) := by
  have r2 : double.read 4611686018427387904 = .number false (2 ^ 52) (-51) := by decide
  unfold Format.mul
  rw [read_small m k h0 h hk hf, r2]
  simp only [Datum.product, Option.map_some]
  have hla : lastOf m k ≤ k := by
    have := log2_lt53 m h0 h
    unfold lastOf
    omega
  have e : (false ^^ false) = false := rfl
  rw [write_num _ _ _ (Nat.mul_ne_zero (Nat.mul_ne_zero h0 (by have := Nat.two_pow_pos (k - lastOf m k).toNat; omega)) (by decide)), e, word_no, Nat.mul_assoc, ← Nat.pow_add, rung_scale _ _ _ h0]
  congr 2
  omega

theorem div_two (m : Nat) (k : Int) (h0 : m ≠ 0) (h : m < 2 ^ 53) (hk : -1074 ≤ k) (hf : rung m k < 2047 * 2 ^ 52) : double.div (rung m k) 4611686018427387904 = some (rung m (k - 1)) := by
  have r2 : double.read 4611686018427387904 = .number false (2 ^ 52) (-51) := by decide
  have hla : lastOf m k ≤ k := by
    have := log2_lt53 m h0 h
    unfold lastOf
    omega
  have hM0 : m * 2 ^ (k - lastOf m k).toNat ≠ 0 := Nat.mul_ne_zero h0 (by have := Nat.two_pow_pos (k - lastOf m k).toNat; omega)
  unfold Format.div
  rw [read_small m k h0 h hk hf, r2]
  simp only [Datum.quotient, Option.map_some]
  rw [if_neg (by decide)]
  have l2 : (2 ^ 52 : Nat).log2 = 52 := log2_of _ 52 (by decide) (by decide)
  have fb : double.fractionBits + 2 = 54 := rfl
  rw [l2, fb]
  have hlm : (m * 2 ^ (k - lastOf m k).toNat).log2 = m.log2 + (k - lastOf m k).toNat := log2_shift _ _ h0
  have hl := log2_lt53 m h0 h
  obtain ⟨more, hmore⟩ : ∃ more, more = 54 + 52 - (m * 2 ^ (k - lastOf m k).toNat).log2 := ⟨_, rfl⟩
  rw [← hmore]
  have hm52 : 52 ≤ more := by
    rw [hlm] at hmore
    have : m.log2 + (k - lastOf m k).toNat ≤ 52 := by
      unfold lastOf
      omega
    omega
  obtain ⟨t, ht⟩ : ∃ t, more = t + 52 := ⟨more - 52, by omega⟩
  have e1 : (m * 2 ^ (k - lastOf m k).toNat) <<< more = m * 2 ^ (k - lastOf m k).toNat * 2 ^ t * 2 ^ 52 := by
    rw [Nat.shiftLeft_eq, ht, Nat.pow_add, Nat.mul_assoc _ (2 ^ t)]
  rw [e1, Nat.mul_div_cancel _ (by decide), Nat.mul_mod_left]
  have e2 : (0 != 0 : Bool).toNat = 0 := rfl
  rw [e2, Nat.add_zero]
  have e : (false ^^ false) = false := rfl
  have e3 : 2 * (m * 2 ^ (k - lastOf m k).toNat * 2 ^ t) = m * 2 ^ ((k - lastOf m k).toNat + t + 1) := by
    rw [Nat.mul_assoc m, ← Nat.pow_add, Nat.mul_left_comm, ← Nat.pow_succ']
  rw [e3, Option.map_some, write_num _ _ _ (Nat.mul_ne_zero h0 (by have := Nat.two_pow_pos ((k - lastOf m k).toNat + t + 1); omega)), e, word_no, rung_scale _ _ _ h0]
  congr 2
  omega

/-! ### the model's rounding -/
/-- bit i of V, 0 below the first -/
def bit (V : Nat) (i : Int) : Nat := if i < 0 then 0 else V / 2 ^ i.toNat % 2

/-- V * 2 ^ -j, cut down to a whole number -/
def sh (V : Nat) (j : Int) : Nat := V * 2 ^ (-j).toNat / 2 ^ j.toNat

theorem sh_step (V : Nat) (i : Int) : 2 * sh V (i + 1) + bit V i = sh V i := by
  unfold sh bit
  by_cases h : i < 0
  · rw [if_pos h]
    have e1 : (i + 1).toNat = 0 := by omega
    have e2 : i.toNat = 0 := by omega
    have e3 : (-i).toNat = (-(i + 1)).toNat + 1 := by omega
    rw [e1, e2, e3, Nat.pow_succ, Nat.pow_zero, Nat.div_one, Nat.div_one, ← Nat.mul_assoc V]
    omega
  · rw [if_neg h]
    have e1 : (-(i + 1)).toNat = 0 := by omega
    have e2 : (-i).toNat = 0 := by omega
    have e3 : (i + 1).toNat = i.toNat + 1 := by omega
    rw [e1, e2, e3, Nat.pow_succ, Nat.pow_zero, Nat.mul_one, ← Nat.div_div_eq_div_mul]
    omega

theorem sh_top (V : Nat) (h : V ≠ 0) : sh V ((V.log2 : Int) + 1) = 0 := by
  unfold sh
  have e1 : (-((V.log2 : Int) + 1)).toNat = 0 := by omega
  have e2 : ((V.log2 : Int) + 1).toNat = V.log2 + 1 := by omega
  rw [e1, e2, Nat.pow_zero, Nat.mul_one]
  exact Nat.div_eq_of_lt Nat.lt_log2_self

theorem sh_lt (V : Nat) (c : Int) (h : V ≠ 0) (hc : (V.log2 : Int) - 52 ≤ c) : sh V c < 2 ^ 53 := by
  unfold sh
  rw [Nat.div_lt_iff_lt_mul (Nat.two_pow_pos _)]
  have h2 : V < 2 ^ (V.log2 + 1) := Nat.lt_log2_self
  by_cases hn : c < 0
  · have e : c.toNat = 0 := by omega
    rw [e, Nat.pow_zero, Nat.mul_one]
    have b : V * 2 ^ (-c).toNat < 2 ^ (V.log2 + 1) * 2 ^ (-c).toNat := Nat.mul_lt_mul_of_pos_right h2 (Nat.two_pow_pos _)
    rw [← Nat.pow_add] at b
    exact Nat.lt_of_lt_of_le b (Nat.pow_le_pow_right (by decide) (by omega))
  · have e : (-c).toNat = 0 := by omega
    rw [e, Nat.pow_zero, Nat.mul_one, ← Nat.pow_add]
    exact Nat.lt_of_lt_of_le h2 (Nat.pow_le_pow_right (by decide) (by omega))

/-- is any bit below place j set? -/
def some1 (V : Nat) (j : Int) : Bool := decide (V % 2 ^ j.toNat ≠ 0)

theorem some1_step (V : Nat) (j : Int) (h : 0 ≤ j) : some1 V (j + 1) = (some1 V j || decide (bit V j ≠ 0)) := by
  unfold some1 bit
  rw [if_neg (by omega)]
  have e3 : (j + 1).toNat = j.toNat + 1 := by omega
  rw [e3, Nat.pow_succ, Nat.mod_mul]
  have hp := Nat.two_pow_pos j.toNat
  by_cases a : V % 2 ^ j.toNat = 0
  · by_cases b : V / 2 ^ j.toNat % 2 = 0
    · simp [a, b]
    · have : 2 ^ j.toNat * (V / 2 ^ j.toNat % 2) ≠ 0 := Nat.mul_ne_zero (by omega) b
      simp [a, b]
      omega
  · simp [a]

/-- the half and sticky rule is rounding to the nearest, ties to even -/
theorem R_bits (V : Nat) (c : Int) : R V (-c) = sh V c + (if bit V (c - 1) = 1 ∧ (some1 V (c - 1) = true ∨ sh V c % 2 = 1) then 1 else 0) := by
  unfold R rne sh
  rw [show -(-c) = c by omega]
  by_cases h : c ≤ 0
  · have e1 : c.toNat = 0 := by omega
    rw [e1, Nat.pow_zero, Nat.div_one, Nat.mod_one]
    have hb : bit V (c - 1) = 0 := by
      unfold bit
      rw [if_pos (by omega)]
    rw [hb]
    simp
  · have e1 : (-c).toNat = 0 := by omega
    obtain ⟨d, hd⟩ : ∃ d, c.toNat = d + 1 := ⟨c.toNat - 1, by omega⟩
    have e2 : (c - 1).toNat = d := by omega
    have hb : bit V (c - 1) = V / 2 ^ d % 2 := by
      unfold bit
      rw [if_neg (by omega), e2]
    have hs : some1 V (c - 1) = decide (V % 2 ^ d ≠ 0) := by
      unfold some1
      rw [e2]
    rw [e1, Nat.pow_zero, Nat.mul_one, hb, hs, hd]
    have hm : V % 2 ^ (d + 1) = V % 2 ^ d + 2 ^ d * (V / 2 ^ d % 2) := by rw [Nat.pow_succ, Nat.mod_mul]
    rw [hm, Nat.pow_succ]
    have hlt : V % 2 ^ d < 2 ^ d := Nat.mod_lt _ (Nat.two_pow_pos _)
    generalize V / (2 ^ d * 2) = q at *
    generalize V % 2 ^ d = r at *
    generalize 2 ^ d = P at *
    have h01 : V / P % 2 = 0 ∨ V / P % 2 = 1 := by omega
    rcases h01 with e | e
    · rw [e]
      have a1 : ¬ (P * 2 < 2 * (r + P * 0)) := by omega
      have a2 : ¬ (P * 2 = 2 * (r + P * 0)) := by omega
      simp only [a1, a2]
      simp
    · rw [e]
      by_cases r0 : r = 0
      · have a1 : ¬ (P * 2 < 2 * (r + P * 1)) := by omega
        have a2 : P * 2 = 2 * (r + P * 1) := by omega
        by_cases q1 : q % 2 = 1
        · simp [a1, a2, r0, q1]
        · simp [a1, a2, r0, q1]
      · have a1 : P * 2 < 2 * (r + P * 1) := by omega
        have a3 : decide (P * 2 < 2 * (r + P * 1)) = true := decide_eq_true a1
        have a4 : decide (r ≠ 0) = true := decide_eq_true r0
        rw [a3, a4, if_pos ⟨rfl, Or.inl rfl⟩, Bool.true_or]
        rfl

end Fl
end Go.Proofs.Qxb6615471aFmt
