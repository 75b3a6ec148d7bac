/-
  WORDS OF FLOATS: what a word reads as, its order, products by powers of two; ldexp's way.
-/
import Derived.Test.Qxb6615471aFmtNear
import Ieee.Arith
namespace Go.Proofs.Qxb6615471aFmt
namespace Fl
open Ieee

theorem word_no (r : Nat) : double.word false r = r := rfl
theorem word_yes (r : Nat) : double.word true r = (2 ^ 63) + r := rfl

theorem rung_le (m : Nat) (p : Int) : rung m p ≤ (2047 * 2 ^ 52) := Nat.min_le_right _ _

/-- what a rung reads as -/
def rd (s : Bool) (r : Nat) : Datum :=
  if r < 2 ^ 52 then .number s r (-1074) else if r < (2047 * 2 ^ 52) then .number s (2 ^ 52 + r % 2 ^ 52) ((r / 2 ^ 52 : Nat) - 1075) else .infinity s

theorem read_word (s : Bool) (r : Nat) (h : r ≤ (2047 * 2 ^ 52)) : double.read (double.word s r) = rd s r := by
  have e1 : double.leastPlace = -1074 := by decide
  have e2 : double.binade = 2 ^ 52 := rfl
  have e3 : double.infRung = (2047 * 2 ^ 52) := by decide
  have e4 : double.signWeight = (2 ^ 63) := rfl
  have h1 : double.word s r / (2 ^ 63) % 2 = s.toNat := by
    cases s
    · rw [word_no]; simp; omega
    · rw [word_yes]; simp; omega
  have h2 : double.word s r % (2 ^ 63) = r := by
    cases s
    · rw [word_no]; omega
    · rw [word_yes]; omega
  unfold Format.read rd
  simp only [e1, e2, e3, e4, h1, h2]
  have hs : (s.toNat == 1) = s := by cases s <;> rfl
  rw [hs]
  by_cases c1 : r < 2 ^ 52
  · rw [if_pos c1, if_pos c1]
  · rw [if_neg c1, if_neg c1]
    by_cases c2 : r < (2047 * 2 ^ 52)
    · rw [if_pos c2, if_pos c2]
      congr 1
      omega
    · rw [if_neg c2, if_neg c2, if_pos (by omega)]

theorem read_rung (r : Nat) (h : r ≤ (2047 * 2 ^ 52)) : double.read r = rd false r := read_word false r h

theorem write_num (s : Bool) (m : Nat) (p : Int) (h : m ≠ 0) : double.write (.number s m p) = double.word s (rung m p) := near_eq s m p h

theorem near_t (t : Nat) (h1 : 2 ^ 63 ≤ t) (h2 : t < 2 ^ 64) : double.nearest false t 0 = 1085 * 2 ^ 52 + rne t 11 := by
  rw [near_eq _ _ _ (by omega), word_no]
  obtain ⟨k1, k2⟩ := rne11 t h1 h2
  unfold rung
  rw [log2_of t 63 h1 h2]
  have z1 : max ((0 : Int) + ((63 : Nat) : Int) - 52) (-1074) = 11 := by omega
  rw [z1]
  have e0 : R t (0 - 11) = rne t 11 := by
    unfold R
    simp
  rw [e0]
  have z2 : ((11 : Int) + 1074).toNat = 1085 := by decide
  rw [z2]
  omega

/-- a power of two times a normal number -/
theorem mul_pow (c X : Nat) (hc1 : 1 ≤ c) (hc2 : c ≤ 2046) (h1 : 2 ^ 52 ≤ X) (h2 : X < (2047 * 2 ^ 52)) :
    double.mul (c * 2 ^ 52) X = some (rung (2 ^ 52 + X % 2 ^ 52) ((X / 2 ^ 52 : Nat) - 1075 + ((c : Int) - 1023))) := by
  unfold Format.mul
  have r1 : double.read (c * 2 ^ 52) = .number false (2 ^ 52) ((c : Int) - 1075) := by
    rw [read_rung _ (by omega)]
    unfold rd
    rw [if_neg (by omega), if_pos (by omega), Nat.mul_mod_left, Nat.mul_div_cancel _ (by decide)]
  have r2 : double.read X = .number false (2 ^ 52 + X % 2 ^ 52) ((X / 2 ^ 52 : Nat) - 1075) := by
    rw [read_rung _ (by omega)]
    unfold rd
    rw [if_neg (by omega), if_pos h2]
  rw [r1, r2]
  simp only [Datum.product, Option.map_some]
  have hm : 2 ^ 52 + X % 2 ^ 52 ≠ 0 := by omega
  rw [write_num _ _ _ (Nat.mul_ne_zero (by decide) hm)]
  have e : (false ^^ false) = false := rfl
  rw [e, word_no, Nat.mul_comm (2 ^ 52), rung_scale _ _ _ hm]
  congr 2
  omega

/-- WHAT ldexp GIVES of a normal number's word x -/
theorem ldexp_over (x : Nat) (e : Int) (h : 1023 < e + (x / 2 ^ 52 : Nat) - 1023) : rung (2 ^ 52 + x % 2 ^ 52) ((x / 2 ^ 52 : Nat) - 1075 + e) = (2047 * 2 ^ 52) := by
  have hl : (2 ^ 52 + x % 2 ^ 52).log2 = 52 := log2_of _ 52 (by omega) (by omega)
  unfold rung
  rw [hl]
  generalize x % 2 ^ 52 = fr at *
  obtain ⟨E, hE⟩ : ∃ E : Int, E = (x / 2 ^ 52 : Nat) - 1075 + e := ⟨_, rfl⟩
  rw [← hE]
  have z1 : max (E + ((52 : Nat) : Int) - 52) (-1074) = E := by omega
  rw [z1, show E - E = 0 by omega, R_zero]
  have : 2046 ≤ (E + 1074).toNat := by omega
  omega

theorem ldexp_under (x : Nat) (e : Int) (h : e + (x / 2 ^ 52 : Nat) - 1023 < -1075) : rung (2 ^ 52 + x % 2 ^ 52) ((x / 2 ^ 52 : Nat) - 1075 + e) = 0 := by
  have hl : (2 ^ 52 + x % 2 ^ 52).log2 = 52 := log2_of _ 52 (by omega) (by omega)
  unfold rung
  rw [hl]
  obtain ⟨E, hE⟩ : ∃ E : Int, E = (x / 2 ^ 52 : Nat) - 1075 + e := ⟨_, rfl⟩
  rw [← hE]
  have z1 : max (E + ((52 : Nat) : Int) - 52) (-1074) = -1074 := by omega
  rw [z1]
  have z2 : R (2 ^ 52 + x % 2 ^ 52) (E - -1074) = 0 := by
    unfold R
    have z3 : (E - -1074).toNat = 0 := by omega
    rw [z3, Nat.pow_zero, Nat.mul_one]
    exact rne_small _ _ (by rw [hl]; omega)
  rw [z2]
  decide

/-- THE MAGNITUDE: ldexp of the rounded top bits is the whole number rounded once. -/
theorem ldexp_top (V : Nat) (p : Int) (h : V ≠ 0) (hx : 2 ^ (-1074 - p).toNat ∣ V) (x : Nat) (hxx : x = 1085 * 2 ^ 52 + rne (top V) 11) :
    rung (2 ^ 52 + x % 2 ^ 52) ((x / 2 ^ 52 : Nat) - 1075 + (p + V.log2 - 63)) = rung V p := by
  rw [← rung_twice V p h hx]
  obtain ⟨k1, k2⟩ := rne11 _ (top_bounds V h).1 (top_bounds V h).2
  generalize rne (top V) 11 = k at *
  generalize p + V.log2 - 63 = q at *
  by_cases hk : k < 2 ^ 53
  · have e1 : 2 ^ 52 + x % 2 ^ 52 = k := by omega
    have e2 : x / 2 ^ 52 = 1086 := by omega
    have e3 : ((1086 : Nat) : Int) - 1075 + q = 11 + q := by omega
    rw [e1, e2, e3]
  · have hk' : k = 2 ^ 52 * 2 ^ 1 := by omega
    have e1 : 2 ^ 52 + x % 2 ^ 52 = 2 ^ 52 := by omega
    have e2 : x / 2 ^ 52 = 1087 := by omega
    have e3 : ((1087 : Nat) : Int) - 1075 + q = 11 + q + ((1 : Nat) : Int) := by omega
    rw [e1, e2, hk', rung_scale _ _ _ (by decide), e3]

/-! ### order -/
theorem order_self (s : Bool) (r : Nat) (h : r ≤ (2047 * 2 ^ 52)) : double.order (double.word s r) (double.word s r) = some .eq := by
  unfold Format.order
  rw [read_word s r h]
  unfold rd
  split
  · simp [Datum.order, compare, compareOfLessAndEq]
  · split
    · simp [Datum.order, compare, compareOfLessAndEq]
    · simp [Datum.order, compare, compareOfLessAndEq]

theorem order_zeros : double.order 0 (2 ^ 63) = some .eq := by decide
theorem order_zero0 : double.order 0 0 = some .eq := by decide

theorem order_pos (r : Nat) (h : r ≤ (2047 * 2 ^ 52)) (h0 : 0 < r) : double.order r 0 = some .gt := by
  have z : double.read 0 = .number false 0 (-1074) := by decide
  unfold Format.order
  rw [read_rung r h, z]
  unfold rd
  split
  · simp only [Datum.order, signed, Nat.shiftLeft_eq]
    simp only [compare, compareOfLessAndEq]
    rw [if_neg (by simp), if_neg (by simp; omega)]
  · split
    · simp only [Datum.order, signed, Nat.shiftLeft_eq]
      have hB : 0 < (2 ^ 52 + r % 2 ^ 52) * 2 ^ (((r / 2 ^ 52 : Nat) : Int) - 1075 - min (((r / 2 ^ 52 : Nat) : Int) - 1075) (-1074)).toNat := Nat.mul_pos (by omega) (Nat.two_pow_pos _)
      generalize (2 ^ 52 + r % 2 ^ 52) * 2 ^ (((r / 2 ^ 52 : Nat) : Int) - 1075 - min (((r / 2 ^ 52 : Nat) : Int) - 1075) (-1074)).toNat = B at *
      simp only [compare, compareOfLessAndEq]
      rw [if_neg (by simp), if_neg (by simp; omega)]
    · rfl

theorem order_neg (r : Nat) (h : r ≤ (2047 * 2 ^ 52)) (h0 : 0 < r) : double.order ((2 ^ 63) + r) 0 = some .lt := by
  have z : double.read 0 = .number false 0 (-1074) := by decide
  unfold Format.order
  rw [show (2 ^ 63) + r = double.word true r from rfl, read_word true r h, z]
  unfold rd
  split
  · simp [Datum.order, signed, compare, compareOfLessAndEq]
    omega
  · split
    · simp only [Datum.order, signed, Nat.shiftLeft_eq]
      have hB : 0 < (2 ^ 52 + r % 2 ^ 52) * 2 ^ (((r / 2 ^ 52 : Nat) : Int) - 1075 - min (((r / 2 ^ 52 : Nat) : Int) - 1075) (-1074)).toNat := Nat.mul_pos (by omega) (Nat.two_pow_pos _)
      generalize (2 ^ 52 + r % 2 ^ 52) * 2 ^ (((r / 2 ^ 52 : Nat) : Int) - 1075 - min (((r / 2 ^ 52 : Nat) : Int) - 1075) (-1074)).toNat = B at *
      simp only [compare, compareOfLessAndEq]
      rw [if_pos (by simp; omega)]
    · rfl

theorem order_big (r : Nat) (h : r ≤ (2047 * 2 ^ 52)) : (double.order r (2047 * 2 ^ 52 - 1) == some .gt) = decide (r = (2047 * 2 ^ 52)) := by
  have z : double.read (2047 * 2 ^ 52 - 1) = .number false (2 ^ 53 - 1) 971 := by decide
  unfold Format.order
  rw [read_rung r h, z]
  unfold rd
  by_cases c1 : r < 2 ^ 52
  · rw [if_pos c1, decide_eq_false (by omega)]
    simp only [Datum.order, signed, Nat.shiftLeft_eq]
    have e1 : (-1074 - min (-1074 : Int) 971).toNat = 0 := by decide
    have e2 : (971 - min (-1074 : Int) 971).toNat = 2045 := by decide
    rw [e1, e2]
    generalize 2045 = K at *
    have hp : 1 ≤ 2 ^ K := Nat.two_pow_pos K
    have hq : (2 ^ 53 - 1) * 1 ≤ (2 ^ 53 - 1) * 2 ^ K := Nat.mul_le_mul_left _ hp
    generalize (2 ^ 53 - 1) * 2 ^ K = B at *
    simp only [compare, compareOfLessAndEq]
    rw [if_pos (by simp; omega)]
    rfl
  · rw [if_neg c1]
    by_cases c2 : r < (2047 * 2 ^ 52)
    · rw [if_pos c2, decide_eq_false (by omega)]
      simp only [Datum.order, signed, Nat.shiftLeft_eq]
      obtain ⟨P, hP⟩ : ∃ P : Int, P = ((r / 2 ^ 52 : Nat) : Int) - 1075 := ⟨_, rfl⟩
      rw [← hP]
      have hP1 : P ≤ 971 := by omega
      have e1 : (P - min P 971).toNat = 0 := by omega
      have e2 : (971 - min P 971).toNat = (971 - P).toNat := by omega
      rw [e1, e2]
      have hp : 1 ≤ 2 ^ (971 - P).toNat := Nat.two_pow_pos _
      have hq : (2 ^ 53 - 1) * 1 ≤ (2 ^ 53 - 1) * 2 ^ (971 - P).toNat := Nat.mul_le_mul_left _ hp
      generalize (2 ^ 53 - 1) * 2 ^ (971 - P).toNat = B at *
      simp only [compare, compareOfLessAndEq]
      by_cases c3 : (2 ^ 52 + r % 2 ^ 52) * 2 ^ 0 < B
      · rw [if_pos (by simp; omega)]
        rfl
      · have c4 : (2 ^ 52 + r % 2 ^ 52) * 2 ^ 0 = B := by omega
        rw [if_neg (by simp; omega), if_pos (by simp; omega)]
        rfl
    · rw [if_neg c2, decide_eq_true (by omega)]
      rfl

end Fl
end Go.Proofs.Qxb6615471aFmt
