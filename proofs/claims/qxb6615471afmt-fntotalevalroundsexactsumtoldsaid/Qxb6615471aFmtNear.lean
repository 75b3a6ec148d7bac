/-
  THE NEAREST WORD: the plain laws of Ieee's rounding that the two laws lean on: scale, sticky bit, ldexp.
-/
import Derived.Laws.FloatBits
namespace Go.Proofs.Qxb6615471aFmt
namespace Fl
open Ieee

/-- n / 2 ^ d, to the nearest, ties to even -/
def rne (n d : Nat) : Nat := n / 2 ^ d + (decide (2 ^ d < 2 * (n % 2 ^ d)) || (decide (2 ^ d = 2 * (n % 2 ^ d)) && decide (n / 2 ^ d % 2 = 1))).toNat

theorem lt_pow_log2 (n : Nat) : n < 2 ^ (n.log2 + 1) := Nat.lt_log2_self

theorem rne_zero (n : Nat) : rne n 0 = n := by
  unfold rne
  simp [Nat.mod_one]

theorem rne_small (n d : Nat) (h : n.log2 + 2 ≤ d) : rne n d = 0 := by
  have h1 : 2 * n < 2 ^ d := by
    have := lt_pow_log2 n
    have h2 : 2 ^ (n.log2 + 1) * 2 ≤ 2 ^ d := by rw [← Nat.pow_succ]; exact Nat.pow_le_pow_right (by decide) h
    omega
  unfold rne
  rw [Nat.div_eq_of_lt (by omega), Nat.mod_eq_of_lt (by omega)]
  have a : ¬ (2 ^ d < 2 * n) := by omega
  have b : ¬ (2 ^ d = 2 * n) := by omega
  simp [a, b]

theorem cut_eq (neg : Bool) (n d : Nat) : Toward.even.cut neg n d = rne n d := by
  have key : ∀ g, Toward.even.cut neg n g = rne n (min g (n.log2 + 2)) := by
    intro g
    unfold Toward.cut rne
    simp only [Nat.shiftLeft_eq, Nat.one_mul]
    congr 2
  rw [key]
  by_cases h : d ≤ n.log2 + 2
  · rw [Nat.min_eq_left h]
  · rw [Nat.min_eq_right (by omega), rne_small n _ (Nat.le_refl _), rne_small n d (by omega)]

theorem rne_shift (m d j : Nat) : rne (m * 2 ^ j) (d + j) = rne m d := by
  unfold rne
  have h1 : m * 2 ^ j / 2 ^ (d + j) = m / 2 ^ d := by rw [Nat.pow_add, Nat.mul_div_mul_right _ _ (Nat.two_pow_pos j)]
  have h2 : m * 2 ^ j % 2 ^ (d + j) = m % 2 ^ d * 2 ^ j := by rw [Nat.pow_add, Nat.mul_mod_mul_right]
  have hp := Nat.two_pow_pos j
  rw [h1, h2]
  have e1 : (2 ^ (d + j) < 2 * (m % 2 ^ d * 2 ^ j)) ↔ (2 ^ d < 2 * (m % 2 ^ d)) := by
    rw [Nat.pow_add, ← Nat.mul_assoc]
    exact Nat.mul_lt_mul_right hp
  have e2 : (2 ^ (d + j) = 2 * (m % 2 ^ d * 2 ^ j)) ↔ (2 ^ d = 2 * (m % 2 ^ d)) := by
    rw [Nat.pow_add, ← Nat.mul_assoc]
    exact ⟨fun h => Nat.eq_of_mul_eq_mul_right hp h, fun h => congrArg (· * 2 ^ j) h⟩
  simp only [e1, e2]

/-- m * 2 ^ e, to the nearest whole number, ties to even -/
def R (m : Nat) (e : Int) : Nat := rne (m * 2 ^ e.toNat) (-e).toNat

theorem R_of (m x y : Nat) : rne (m * 2 ^ x) y = R m ((x : Int) - y) := by
  unfold R
  by_cases h : x ≤ y
  · have e1 : ((x : Int) - y).toNat = 0 := by omega
    have e2 : (-((x : Int) - y)).toNat = y - x := by omega
    rw [e1, e2]
    have := rne_shift m (y - x) x
    rw [Nat.sub_add_cancel h] at this
    rw [this]
    simp
  · have e1 : ((x : Int) - y).toNat = x - y := by omega
    have e2 : (-((x : Int) - y)).toNat = 0 := by omega
    rw [e1, e2]
    have := rne_shift (m * 2 ^ (x - y)) 0 y
    rw [Nat.mul_assoc, ← Nat.pow_add, Nat.sub_add_cancel (by omega), Nat.zero_add] at this
    exact this

theorem R_scale (m k : Nat) (e : Int) : R (m * 2 ^ k) e = R m (e + k) := by
  have h : R (m * 2 ^ k) e = rne (m * 2 ^ (k + e.toNat)) (-e).toNat := by
    unfold R
    rw [Nat.mul_assoc, ← Nat.pow_add]
  rw [h, R_of]
  congr 1
  omega

/-- the rung of m * 2 ^ p -/
def rung (m : Nat) (p : Int) : Nat := min ((max (p + m.log2 - 52) (-1074) + 1074).toNat * 2 ^ 52 + R m (p - max (p + m.log2 - 52) (-1074))) (2047 * 2 ^ 52)

theorem near_eq (neg : Bool) (m : Nat) (p : Int) (h : m ≠ 0) : double.nearest neg m p = double.word neg (rung m p) := by
  have e1 : double.leastPlace = -1074 := by decide
  have e2 : double.binade = 2 ^ 52 := rfl
  have e3 : double.infRung = 2047 * 2 ^ 52 := by decide
  have e4 : (double.fractionBits : Int) = 52 := rfl
  have hR : ∀ last : Int, Toward.even.cut neg (m <<< (p - last).toNat) (last - p).toNat = R m (p - last) := by
    intro last
    rw [cut_eq, Nat.shiftLeft_eq, R_of]
    congr 1
    omega
  have e5 : ∀ last : Int, (last - -1074).toNat = (last + 1074).toNat := by
    intro last
    congr 1
  unfold Format.nearest rung
  rw [if_neg h]
  simp only [hR, e1, e2, e3, e4, e5]

theorem log2_shift (m k : Nat) (h : m ≠ 0) : (m * 2 ^ k).log2 = m.log2 + k := by
  have hp := Nat.two_pow_pos k
  rw [Nat.log2_eq_iff (by exact Nat.mul_ne_zero h (by omega))]
  obtain ⟨h1, h2⟩ := (Nat.log2_eq_iff h).1 rfl
  constructor
  · rw [Nat.pow_add]
    exact Nat.mul_le_mul_right _ h1
  · rw [show m.log2 + k + 1 = m.log2 + 1 + k by omega, Nat.pow_add]
    exact Nat.mul_lt_mul_of_pos_right h2 hp

theorem rung_scale (m k : Nat) (p : Int) (h : m ≠ 0) : rung (m * 2 ^ k) p = rung m (p + k) := by
  unfold rung
  rw [log2_shift m k h, R_scale]
  have e : p + ((m.log2 + k : Nat) : Int) - 52 = p + k + m.log2 - 52 := by omega
  rw [e]
  congr 3
  omega

/-- q with its last bit set where something lies below -/
def stk (q : Nat) (b : Bool) : Nat := if b then q / 2 * 2 + 1 else q

theorem rne_sticky (m d s : Nat) (hs : 2 ≤ s) : rne m (d + s) = rne (stk (m / 2 ^ d) (decide (m % 2 ^ d ≠ 0))) s := by
  obtain ⟨D, hD⟩ : ∃ D, D = 2 ^ d := ⟨_, rfl⟩
  obtain ⟨h, hh⟩ : ∃ h, h = 2 ^ (s - 2) := ⟨_, rfl⟩
  have hDp : 0 < D := by rw [hD]; exact Nat.two_pow_pos _
  have hS : 2 ^ s = 4 * h := by
    rw [hh, show (4 : Nat) = 2 ^ 2 from rfl, ← Nat.pow_add]
    congr 1
    omega
  by_cases hr : m % 2 ^ d = 0
  · have hm : m = m / 2 ^ d * 2 ^ d := by
      have := Nat.div_add_mod m (2 ^ d)
      rw [hr] at this
      rw [Nat.mul_comm]
      omega
    have e : stk (m / 2 ^ d) (decide (m % 2 ^ d ≠ 0)) = m / 2 ^ d := by simp [stk, hr]
    rw [e]
    have := rne_shift (m / 2 ^ d) s d
    rw [← hm, Nat.add_comm] at this
    exact this
  · have e : stk (m / 2 ^ d) (decide (m % 2 ^ d ≠ 0)) = m / 2 ^ d / 2 * 2 + 1 := by simp [stk, hr]
    rw [e]
    unfold rne
    have hr2 : m % 2 ^ d < 2 ^ d := Nat.mod_lt _ (Nat.two_pow_pos _)
    have m1 : m / 2 ^ (d + s) = m / 2 ^ d / 2 ^ s := by rw [Nat.pow_add, Nat.div_div_eq_div_mul]
    have m2 : m % 2 ^ (d + s) = m % 2 ^ d + 2 ^ d * (m / 2 ^ d % 2 ^ s) := by rw [Nat.pow_add, Nat.mod_mul]
    have m3 : (2 : Nat) ^ (d + s) = D * (4 * h) := by rw [Nat.pow_add, hS, hD]
    rw [m1, m2, m3, hS]
    rw [← hD] at hr hr2 ⊢
    generalize m % D = r at *
    generalize m / D = q at *
    have hp : 0 < h := by rw [hh]; exact Nat.two_pow_pos _
    clear hh hD m1 m2 m3 e
    have q1 : (q / 2 * 2 + 1) / (4 * h) = q / (4 * h) := by
      have a1 : 4 * h = 2 * (2 * h) := by omega
      rw [a1, ← Nat.div_div_eq_div_mul (q / 2 * 2 + 1) 2 (2 * h), ← Nat.div_div_eq_div_mul q 2 (2 * h)]
      congr 1
      omega
    have q2 : (q / 2 * 2 + 1) % (4 * h) = 1 + 2 * (q / 2 % (2 * h)) := by
      have a1 : 4 * h = 2 * (2 * h) := by omega
      rw [a1, Nat.mod_mul]
      congr 1
      · omega
      · congr 2
        omega
    have q3 : q % (4 * h) = q % 2 + 2 * (q / 2 % (2 * h)) := by
      have a1 : 4 * h = 2 * (2 * h) := by omega
      rw [a1, Nat.mod_mul]
    rw [q1, q2]
    congr 1
    congr 1
    generalize q / 2 % (2 * h) = a at *
    have b1 : ¬ (4 * h = 2 * (1 + 2 * a)) := by omega
    have b2 : ¬ (D * (4 * h) = 2 * (r + D * (q % (4 * h)))) := by
      intro hc
      have hc' : D * (2 * h) = r + D * (q % (4 * h)) := by
        have : D * (4 * h) = 2 * (D * (2 * h)) := by rw [show 4 * h = 2 * (2 * h) by omega, Nat.mul_left_comm]
        omega
      rcases Nat.lt_or_ge (q % (4 * h)) (2 * h) with hlt | hge
      · have := Nat.mul_le_mul_left D hlt
        rw [Nat.mul_succ] at this
        omega
      · have := Nat.mul_le_mul_left D hge
        omega
    have b3 : (D * (4 * h) < 2 * (r + D * (q % (4 * h)))) ↔ (4 * h < 2 * (1 + 2 * a)) := by
      have e4 : D * (4 * h) = 2 * (D * (2 * h)) := by rw [show 4 * h = 2 * (2 * h) by omega, Nat.mul_left_comm]
      rcases Nat.lt_or_ge (q % (4 * h)) (2 * h) with hlt | hge
      · have := Nat.mul_le_mul_left D hlt
        rw [Nat.mul_succ] at this
        omega
      · have := Nat.mul_le_mul_left D hge
        omega
    simp only [b1, b2, b3]

theorem log2_of (n k : Nat) (h1 : 2 ^ k ≤ n) (h2 : n < 2 ^ (k + 1)) : n.log2 = k := by
  have : n ≠ 0 := by have := Nat.two_pow_pos k; omega
  exact (Nat.log2_eq_iff this).2 ⟨h1, h2⟩

/-- the 64 bits from the leading 1 down, the last bit set where anything lies below -/
def top (V : Nat) : Nat := stk (V * 2 ^ 64 / 2 ^ (V.log2 + 1)) (decide (V * 2 ^ 64 % 2 ^ (V.log2 + 1) ≠ 0))

theorem top_bounds (V : Nat) (h : V ≠ 0) : 2 ^ 63 ≤ top V ∧ top V < 2 ^ 64 := by
  obtain ⟨h1, h2⟩ := (Nat.log2_eq_iff h).1 rfl
  have hp := Nat.two_pow_pos (V.log2 + 1)
  have a1 : 2 ^ 63 ≤ V * 2 ^ 64 / 2 ^ (V.log2 + 1) := by
    have e : 2 ^ 63 * 2 ^ (V.log2 + 1) = 2 ^ V.log2 * 2 ^ 64 := by
      rw [← Nat.pow_add, ← Nat.pow_add]
      congr 1
      omega
    rw [Nat.le_div_iff_mul_le hp, e]
    exact Nat.mul_le_mul_right _ h1
  have a2 : V * 2 ^ 64 / 2 ^ (V.log2 + 1) < 2 ^ 64 := by
    rw [Nat.div_lt_iff_lt_mul hp, Nat.mul_comm]
    exact Nat.mul_lt_mul_of_pos_left h2 (by decide)
  unfold top stk
  split <;> omega

theorem top_log2 (V : Nat) (h : V ≠ 0) : (top V).log2 = 63 := log2_of _ 63 (top_bounds V h).1 (top_bounds V h).2

theorem rung_top (V : Nat) (p : Int) (h : V ≠ 0) : rung V p = rung (top V) (p + V.log2 - 63) := by
  have e1 := rung_scale V 64 (p - 64) h
  rw [show p - 64 + ((64 : Nat) : Int) = p by omega] at e1
  rw [← e1]
  have hL : (V * 2 ^ 64).log2 = V.log2 + 64 := log2_shift V 64 h
  unfold rung
  rw [hL, top_log2 V h]
  have e2 : p - 64 + ((V.log2 + 64 : Nat) : Int) - 52 = p + V.log2 - 63 + ((63 : Nat) : Int) - 52 := by omega
  rw [e2]
  obtain ⟨last, hlast⟩ : ∃ last : Int, last = max (p + V.log2 - 63 + ((63 : Nat) : Int) - 52) (-1074) := ⟨_, rfl⟩
  rw [← hlast]
  have hle : p + V.log2 - 52 ≤ last := by omega
  have e3 : R (V * 2 ^ 64) (p - 64 - last) = R (top V) (p + V.log2 - 63 - last) := by
    unfold R
    have z1 : (p - 64 - last).toNat = 0 := by omega
    have z2 : (p + V.log2 - 63 - last).toNat = 0 := by omega
    rw [z1, z2, Nat.pow_zero, Nat.mul_one, Nat.mul_one]
    have z3 : (-(p - 64 - last)).toNat = (V.log2 + 1) + (-(p + V.log2 - 63 - last)).toNat := by omega
    rw [z3]
    exact rne_sticky _ _ _ (by omega)
  rw [e3]

theorem R_zero (m : Nat) : R m 0 = m := by
  unfold R
  simp [rne_zero]

theorem rne11 (t : Nat) (h1 : 2 ^ 63 ≤ t) (h2 : t < 2 ^ 64) : 2 ^ 52 ≤ rne t 11 ∧ rne t 11 ≤ 2 ^ 53 := by
  unfold rne
  have := Bool.toNat_le (decide (2 ^ 11 < 2 * (t % 2 ^ 11)) || (decide (2 ^ 11 = 2 * (t % 2 ^ 11)) && decide (t / 2 ^ 11 % 2 = 1)))
  omega

theorem rung_round (t : Nat) (q : Int) (h1 : 2 ^ 63 ≤ t) (h2 : t < 2 ^ 64) (hq : -1022 ≤ 63 + q ∨ t % 2 ^ 11 = 0) : rung (rne t 11) (11 + q) = rung t q := by
  have ht := log2_of t 63 h1 h2
  rcases hq with hq | hq
  · obtain ⟨k1, k2⟩ := rne11 t h1 h2
    have e0 : R t (-11) = rne t 11 := by
      unfold R
      simp
    have e1 : rung t q = min ((q + 1085).toNat * 2 ^ 52 + rne t 11) (2047 * 2 ^ 52) := by
      unfold rung
      rw [ht]
      have z1 : max (q + ((63 : Nat) : Int) - 52) (-1074) = q + 11 := by omega
      rw [z1, show q - (q + 11) = -11 by omega, e0, show q + 11 + 1074 = q + 1085 by omega]
    rw [e1]
    generalize rne t 11 = k at *
    by_cases hk : k < 2 ^ 53
    · have lk := log2_of k 52 k1 hk
      unfold rung
      rw [lk]
      have z1 : max (11 + q + ((52 : Nat) : Int) - 52) (-1074) = q + 11 := by omega
      rw [z1, show 11 + q - (q + 11) = 0 by omega, R_zero, show q + 11 + 1074 = q + 1085 by omega]
    · have hk' : k = 2 ^ 52 * 2 ^ 1 := by omega
      rw [hk', rung_scale _ _ _ (by decide)]
      unfold rung
      have lk : (2 ^ 52 : Nat).log2 = 52 := log2_of _ 52 (by decide) (by decide)
      rw [lk]
      have z1 : max (11 + q + ((1 : Nat) : Int) + ((52 : Nat) : Int) - 52) (-1074) = q + 12 := by omega
      have z2 : (q + 12 + 1074).toNat = (q + 1085).toNat + 1 := by omega
      have z3 : ((q + 1085).toNat + 1) * 2 ^ 52 + 2 ^ 52 = (q + 1085).toNat * 2 ^ 52 + 2 ^ 52 * 2 ^ 1 := by omega
      rw [z1, show 11 + q + ((1 : Nat) : Int) - (q + 12) = 0 by omega, R_zero, z2, z3]
  · have e : t = t / 2 ^ 11 * 2 ^ 11 := by omega
    have e2 : rne t 11 = t / 2 ^ 11 := by
      unfold rne
      rw [hq]
      simp
    rw [e2]
    have := rung_scale (t / 2 ^ 11) 11 q (by omega)
    rw [← e] at this
    rw [this]
    congr 1
    omega

/-- THE MAGNITUDE's WAY: its top 64 bits rounded to 53, scaled, rounded again, is the whole rounded once. -/
theorem rung_twice (V : Nat) (p : Int) (h : V ≠ 0) (hx : 2 ^ (-1074 - p).toNat ∣ V) : rung (rne (top V) 11) (11 + (p + V.log2 - 63)) = rung V p := by
  rw [rung_top V p h]
  refine rung_round _ _ (top_bounds V h).1 (top_bounds V h).2 ?_
  by_cases hn : -1022 ≤ 63 + (p + V.log2 - 63)
  · exact Or.inl hn
  · right
    obtain ⟨u, hu⟩ := hx
    have hL : V.log2 + 12 ≤ 64 + (-1074 - p).toNat := by omega
    have e : V * 2 ^ 64 = u * 2 ^ (64 + (-1074 - p).toNat - (V.log2 + 12)) * 2 ^ 11 * 2 ^ (V.log2 + 1) := by
      rw [Nat.mul_assoc, Nat.mul_assoc, ← Nat.pow_add, ← Nat.pow_add]
      rw [show 64 + (-1074 - p).toNat - (V.log2 + 12) + (11 + (V.log2 + 1)) = (-1074 - p).toNat + 64 by omega, Nat.pow_add, ← Nat.mul_assoc, Nat.mul_comm u, ← hu]
    have hp := Nat.two_pow_pos (V.log2 + 1)
    unfold top
    rw [e, Nat.mul_mod_left, Nat.mul_div_cancel _ hp]
    simp [stk]

end Fl
end Go.Proofs.Qxb6615471aFmt
