/-
  THE MODEL's ROUNDING IS THE NEAREST FLOAT.
-/
import Derived.Test.Qxb6615471aFmtRndP
namespace Go.Proofs.Qxb6615471aFmt
set_option linter.unusedVariables false
set_option linter.unusedSimpArgs false
namespace Fl

/-- the place of the last bit that zzRound keeps -/
def cutAt (V : Nat) (p : Int) : Int := if (V.log2 : Int) + p < -1022 then -1074 - p else (V.log2 : Int) - 52

/-- m and e, as zzRound leaves them -/
def mOf (V : Nat) (p : Int) : Nat := if R V (-(cutAt V p)) = 2 ^ 53 then 2 ^ 52 else R V (-(cutAt V p))
def eOf (V : Nat) (p : Int) : Int := if R V (-(cutAt V p)) = 2 ^ 53 then cutAt V p + p + 1 else cutAt V p + p

structure Rounded (V : Nat) (p : Int) (m : Nat) (e : Int) : Prop where
  ne : m ≠ 0
  lt : m < 2 ^ 53
  ge : -1074 ≤ e
  eq : rung m e = rung V p
  over : (1023 < (m.log2 : Int) + e) ↔ rung V p = 2047 * 2 ^ 52
  fin : ∀ k : Int, -1074 ≤ k → (m.log2 : Int) + e ≤ 1023 → (k ≤ e ∨ k ≤ 0) → rung m k < 2047 * 2 ^ 52

theorem R_pos' (m : Nat) (c : Int) (hm : m ≠ 0) (h : 2 ^ (-(-c)).toNat ≤ m) : 1 ≤ R m (-c) := by
  unfold R rne
  have h1 : 1 ≤ m * 2 ^ (-c).toNat / 2 ^ (-(-c)).toNat := by
    rw [Nat.le_div_iff_mul_le (Nat.two_pow_pos _), Nat.one_mul]
    exact Nat.le_trans h (Nat.le_mul_of_pos_right _ (Nat.two_pow_pos _))
  omega

theorem rung_fin (m : Nat) (k : Int) (h0 : m ≠ 0) (h : m < 2 ^ 53) (hk : -1074 ≤ k) (hle : (m.log2 : Int) + k ≤ 1023) : rung m k < 2047 * 2 ^ 52 := by
  have hl := log2_lt53 m h0 h
  obtain ⟨a1, a2⟩ := (Nat.log2_eq_iff h0).1 rfl
  rw [rung_small m k h0 h hk]
  obtain ⟨la, hla⟩ : ∃ la, la = lastOf m k := ⟨_, rfl⟩
  rw [← hla]
  have hlk : la ≤ k := by rw [hla]; unfold lastOf; omega
  have hb : m * 2 ^ (k - la).toNat < 2 ^ 53 := by
    have hle2 : (k - la).toNat ≤ 52 - m.log2 := by
      have : k + m.log2 - 52 ≤ la := by rw [hla]; unfold lastOf; omega
      omega
    have e : 2 ^ (m.log2 + 1) * 2 ^ (52 - m.log2) = 2 ^ 53 := by rw [← Nat.pow_add]; congr 1; omega
    have b1 : m * 2 ^ (k - la).toNat ≤ m * 2 ^ (52 - m.log2) := Nat.mul_le_mul_left _ (Nat.pow_le_pow_right (by decide) hle2)
    have b2 : m * 2 ^ (52 - m.log2) < 2 ^ (m.log2 + 1) * 2 ^ (52 - m.log2) := Nat.mul_lt_mul_of_pos_right a2 (Nat.two_pow_pos _)
    omega
  generalize m * 2 ^ (k - la).toNat = M at *
  have hla2 : la ≤ 971 := by rw [hla]; unfold lastOf; omega
  have : (la + 1074).toNat ≤ 2045 := by omega
  omega

theorem R_lower (V : Nat) (c : Int) (h : V ≠ 0) (hc : c ≤ (V.log2 : Int) - 52) : 2 ^ 52 ≤ R V (-c) := by
  have hL := Nat.log2_self_le h
  rw [R_bits]
  have : 2 ^ 52 ≤ sh V c := by
    unfold sh
    rw [Nat.le_div_iff_mul_le (Nat.two_pow_pos _)]
    by_cases hn : c < 0
    · have e : c.toNat = 0 := by omega
      rw [e, Nat.pow_zero, Nat.mul_one]
      have b := Nat.mul_le_mul_right (2 ^ (-c).toNat) hL
      rw [← Nat.pow_add] at b
      exact Nat.le_trans (Nat.pow_le_pow_right (by decide) (by omega)) b
    · have e : (-c).toNat = 0 := by omega
      rw [e, Nat.pow_zero, Nat.mul_one, ← Nat.pow_add]
      exact Nat.le_trans (Nat.pow_le_pow_right (by decide) (by omega)) hL
  omega

theorem R_upper (V : Nat) (c : Int) (h : V ≠ 0) (hc : (V.log2 : Int) - 52 ≤ c) : R V (-c) ≤ 2 ^ 53 := by
  have := sh_lt V c h hc
  rw [R_bits]
  split <;> omega

/-- the last step of it, over plain numbers -/
theorem rounded_core (V M : Nat) (p ec : Int) (hge : -1074 ≤ ec) (hr : rung V p = min ((ec + 1074).toNat * 2 ^ 52 + M) (2047 * 2 ^ 52)) (hpos : 1 ≤ M) (hup : M ≤ 2 ^ 53) (hlow : ec ≠ -1074 → 2 ^ 52 ≤ M) :
    Rounded V p (if M = 2 ^ 53 then 2 ^ 52 else M) (if M = 2 ^ 53 then ec + 1 else ec) := by
  by_cases h53 : M = 2 ^ 53
  · rw [if_pos h53, if_pos h53]
    have l52 : (2 ^ 52 : Nat).log2 = 52 := log2_of _ 52 (by decide) (by decide)
    have hr2 : rung V p = min ((ec + 1 + 1074).toNat * 2 ^ 52 + 2 ^ 52) (2047 * 2 ^ 52) := by
      have key : (ec + 1074).toNat * 2 ^ 52 + 2 ^ 53 = (ec + 1 + 1074).toNat * 2 ^ 52 + 2 ^ 52 := by
        have : (ec + 1 + 1074).toNat = (ec + 1074).toNat + 1 := by omega
        rw [this]
        omega
      rw [hr, h53, key]
    clear hr hlow hpos hup
    obtain ⟨N, hN⟩ : ∃ N : Nat, N = 2 ^ 52 := ⟨_, rfl⟩
    have hN0 : N ≠ 0 := by rw [hN]; decide
    have hN53 : N < 2 ^ 53 := by rw [hN]; decide
    rw [← hN] at l52 ⊢
    rw [show (2 : Nat) ^ 52 = N from hN.symm] at hr2
    have hlo : lastOf N (ec + 1) = ec + 1 := by unfold lastOf; rw [l52]; omega
    have eqn : rung N (ec + 1) = rung V p := by
      rw [rung_small _ _ hN0 hN53 (by omega), hr2, hlo, show (ec + 1 - (ec + 1)).toNat = 0 by omega, Nat.pow_zero, Nat.mul_one, ← hN]
    refine ⟨hN0, hN53, by omega, eqn, ?_, ?_⟩
    · rw [l52, hr2]
      clear eqn hlo
      constructor
      · intro h
        have : 2046 ≤ (ec + 1 + 1074).toNat := by omega
        have h3 := Nat.mul_le_mul_right N this
        omega
      · intro h
        apply Classical.byContradiction
        intro hc
        have : (ec + 1 + 1074).toNat ≤ 2045 := by omega
        have h3 := Nat.mul_le_mul_right N this
        omega
    · intro k hk hle hor
      rw [l52] at hle
      exact rung_fin _ _ hN0 hN53 hk (by rw [l52]; omega)
  · rw [if_neg h53, if_neg h53]
    have hM0 : M ≠ 0 := by omega
    have hM53 : M < 2 ^ 53 := by omega
    have hl := log2_lt53 M hM0 hM53
    have hl52 : ec ≠ -1074 → M.log2 = 52 := fun e => log2_of _ 52 (hlow e) hM53
    have hlo : lastOf M ec = ec := by
      unfold lastOf
      by_cases e : ec = -1074
      · omega
      · have := hl52 e
        omega
    have eqn : rung M ec = rung V p := by
      rw [rung_small _ _ hM0 hM53 hge, hr, hlo, show (ec - ec).toNat = 0 by omega, Nat.pow_zero, Nat.mul_one]
    refine ⟨hM0, hM53, hge, eqn, ?_, ?_⟩
    · rw [hr]
      clear eqn hlo hr
      by_cases e : ec = -1074
      · subst e
        constructor
        · intro h
          omega
        · intro h
          have : (-1074 + 1074 : Int).toNat = 0 := by decide
          rw [this] at h
          omega
      · have h52 := hlow e
        rw [hl52 e]
        constructor
        · intro h
          have : 2046 ≤ (ec + 1074).toNat := by omega
          omega
        · intro h
          apply Classical.byContradiction
          intro hc
          have : (ec + 1074).toNat ≤ 2045 := by omega
          omega
    · intro k hk hle hor
      exact rung_fin _ _ hM0 hM53 hk (by omega)

theorem rounded (V : Nat) (p : Int) (h : V ≠ 0) (hx : 2 ^ (-1074 - p).toNat ∣ V) : Rounded V p (mOf V p) (eOf V p) := by
  obtain ⟨c, hc⟩ : ∃ c, c = cutAt V p := ⟨_, rfl⟩
  have hlast : c + p = max (p + V.log2 - 52) (-1074) := by
    rw [hc]
    unfold cutAt
    split <;> omega
  have hcl : (V.log2 : Int) - 52 ≤ c := by omega
  have hup := R_upper V c h hcl
  have hr : rung V p = min ((c + p + 1074).toNat * 2 ^ 52 + R V (-c)) (2047 * 2 ^ 52) := by
    show min ((max (p + (V.log2 : Int) - 52) (-1074) + 1074).toNat * 2 ^ 52 + R V (p - max (p + (V.log2 : Int) - 52) (-1074))) (2047 * 2 ^ 52) = _
    rw [← hlast, show p - (c + p) = -c by omega]
  have hpos : 1 ≤ R V (-c) := by
    apply R_pos' V c h
    · by_cases cc : -1022 ≤ p + V.log2
      · have e : (-(-c)).toNat ≤ V.log2 := by omega
        exact Nat.le_trans (Nat.pow_le_pow_right (by decide) e) (Nat.log2_self_le h)
      · have e : (-(-c)).toNat = (-1074 - p).toNat := by omega
        rw [e]
        exact Nat.le_of_dvd (by omega) hx
  have hlow : c + p ≠ -1074 → 2 ^ 52 ≤ R V (-c) := fun hne => R_lower V c h (by omega)
  have hge : -1074 ≤ c + p := by omega
  unfold mOf eOf
  rw [← hc]
  exact rounded_core V (R V (-c)) p (c + p) hge hr hpos hup hlow

end Fl
end Go.Proofs.Qxb6615471aFmt
