/-
  THE WALKS of zzBit and zzIsZeroValue.
-/
import Derived.Test.Qxb6615471aFmtNg
import Derived.Test.Qxb6615471aFmtRndQ
namespace Go.Proofs.Qxb6615471aFmt
open Go.RowKit
set_option linter.unusedVariables false
set_option linter.unusedSimpArgs false
namespace Fl

theorem val_at (mk : List Int) (q : Nat) (hq : q < mk.length) (hb : ∀ i, i < mk.length → 0 ≤ mk.getD i 0 ∧ mk.getD i 0 < 4294967296) :
    ∃ lo hi : Int, val mk = lo + 4294967296 ^ q * (mk.getD q 0 + 4294967296 * hi) ∧ 0 ≤ lo ∧ lo < 4294967296 ^ q ∧ 0 ≤ hi := by
  have e : mk = mk.take q ++ mk.drop q := (List.take_append_drop q mk).symm
  have hl : (mk.take q).length = q := by rw [List.length_take]; omega
  have b1 := val_bounds (mk.take q) (fun i hi => by rw [hl] at hi; rw [take_getD _ _ _ hi]; exact hb i (by omega))
  rw [hl] at b1
  have hd : mk.drop q = mk.getD q 0 :: mk.drop (q + 1) := by
    rw [List.drop_eq_getElem_cons hq, List.getD_eq_getElem?_getD, List.getElem?_eq_getElem hq]
    rfl
  have b2 := val_bounds (mk.drop (q + 1)) (fun i hi => by
    rw [List.length_drop] at hi
    have := hb (q + 1 + i) (by omega)
    rw [List.getD_eq_getElem?_getD] at this ⊢
    rw [List.getElem?_drop]
    exact this)
  have v := val_append (mk.take q) (mk.drop q)
  rw [← e, hl, hd] at v
  exact ⟨val (mk.take q), val (mk.drop (q + 1)), v, b1.1, b1.2, b2.1⟩

theorem bit_at (mk : List Int) (V q r x : Nat) (hV : val mk = (V : Int)) (hq : q < mk.length) (hr : r < 32) (hx : mk.getD q 0 = (x : Int)) (hb : ∀ i, i < mk.length → 0 ≤ mk.getD i 0 ∧ mk.getD i 0 < 4294967296) :
    V / 2 ^ (32 * q + r) % 2 = x / 2 ^ r % 2 := by
  obtain ⟨lo, hi, e, l0, l1, h0⟩ := val_at mk q hq hb
  obtain ⟨lo', rfl⟩ := Int.eq_ofNat_of_zero_le l0
  obtain ⟨hi', rfl⟩ := Int.eq_ofNat_of_zero_le h0
  rw [hV, hx, pow_digit] at e
  rw [pow_digit] at l1
  have e' : V = lo' + 2 ^ (32 * q) * (x + 4294967296 * hi') := by
    have : (V : Int) = ((lo' + 2 ^ (32 * q) * (x + 4294967296 * hi') : Nat) : Int) := by
      rw [e, Int.natCast_add, Int.natCast_mul]
      rfl
    exact Int.ofNat_inj.1 this
  have l1' : lo' < 2 ^ (32 * q) := by omega
  rw [e', Nat.pow_add, ← Nat.div_div_eq_div_mul, Nat.add_mul_div_left _ _ (Nat.two_pow_pos _), Nat.div_eq_of_lt l1', Nat.zero_add]
  have p2 : 2 ^ r * 2 ^ (31 - r) * 2 = 4294967296 := by rw [← Nat.pow_add, show r + (31 - r) = 31 by omega]
  have e2 : x + 4294967296 * hi' = x + 2 ^ r * (2 ^ (31 - r) * 2 * hi') := by
    rw [← p2]
    congr 1
    simp only [Nat.mul_assoc]
  rw [e2, Nat.add_mul_div_left _ _ (Nat.two_pow_pos _), Nat.mul_assoc, Nat.mul_left_comm]
  omega

theorem bit_high (mk : List Int) (V : Nat) (i : Int) (n : Nat) (hl : mk.length = n) (hV : val mk = (V : Int)) (hb : ∀ i, i < mk.length → 0 ≤ mk.getD i 0 ∧ mk.getD i 0 < 4294967296) (hi : 32 * (n : Int) ≤ i) : bit V i = 0 := by
  have b := (val_bounds mk hb).2
  rw [hV, hl, pow_digit] at b
  have hlt : V < 2 ^ (32 * n) := by omega
  unfold bit
  rw [if_neg (by omega)]
  have : V < 2 ^ i.toNat := Nat.lt_of_lt_of_le hlt (Nat.pow_le_pow_right (by decide) (by omega))
  rw [Nat.div_eq_of_lt this]

theorem bit_lt (V : Nat) (i : Int) : bit V i < 2 := by
  unfold bit
  split <;> omega

set_option maxHeartbeats 1600000 in
set_option maxRecDepth 100000 in
theorem bit_any (D n V : Nat) (i : Int) (mk : List Int) (w : World) (hr : Row w .u32 62 D n mk) (hl : mk.length = n) (hn : n ≤ 131072) (hb : ∀ i, i < mk.length → 0 ≤ mk.getD i 0 ∧ mk.getD i 0 < 4294967296) (hV : val mk = (V : Int)) (hi1 : -1099511627776 ≤ i) (hi2 : i ≤ 1099511627776) :
    Calls Tryf.prog 15 #[.slice (some ⟨D, 0, none⟩) n n, .int .i64 i] w fun e w' => e = .returned (.int .u64 (bit V i)) ∧ w' = w := by
  by_cases h1 : i < 0
  · have e : bit V i = 0 := by
      unfold bit
      rw [if_pos h1]
    rw [e]
    clear hb hV hr
    go_enter Tryf.func15, Tryf.ntmps15
    go_wp2
    go_ret
    exact ⟨rfl, rfl⟩
  by_cases h2 : 32 * (n : Int) ≤ i
  · have e := bit_high mk V i n hl hV hb h2
    rw [e]
    clear hb hV hr
    go_enter Tryf.func15, Tryf.ntmps15
    go_wp2
    go_ret
    exact ⟨rfl, rfl⟩
  obtain ⟨j, rfl⟩ := Int.eq_ofNat_of_zero_le (show 0 ≤ i by omega)
  obtain ⟨q, hq⟩ : ∃ q, q = j / 32 := ⟨_, rfl⟩
  obtain ⟨r, hrr⟩ : ∃ r, r = j % 32 := ⟨_, rfl⟩
  have hqn : q < n := by omega
  have hbx := hb q (by omega)
  obtain ⟨x, hx⟩ := Int.eq_ofNat_of_zero_le hbx.1
  have cx := hr.cell q (by omega)
  rw [hx] at cx hbx
  have ej : j = 32 * q + r := by omega
  have hbit : bit V (j : Int) = x / 2 ^ r % 2 := by
    unfold bit
    rw [if_neg (by omega), Int.toNat_natCast, ej]
    exact bit_at mk V q r x hV (by omega) (by omega) hx hb
  have hxl : x < 4294967296 := by omega
  obtain ⟨y, hy⟩ : ∃ y, y = x / 2 ^ r := ⟨_, rfl⟩
  have hyl : y < 4294967296 := by rw [hy]; have := Nat.div_le_self x (2 ^ r); omega
  have hand : bits .and .u64 (y : Int) 1 = ((y % 2 : Nat) : Int) := by
    have := u64_and_nat y 1 (by omega) (by decide)
    rw [nat_mask1] at this
    exact this
  rw [← hy] at hbit
  rw [hbit]
  have hq' : (j : Int) / 32 = (q : Int) := by omega
  have hr' : (j : Int) % 32 = (r : Int) := by omega
  have hrl : r < 32 := by omega
  have hqi : (q : Int) < n := by omega
  have hq0 : (0 : Int) ≤ q := by omega
  have hsh : (x : Int) / 2 ^ r = (y : Int) := by rw [hy]; norm_cast
  clear hb hV hr hx hbx ej hbit hy hq hrr
  go_enter Tryf.func15, Tryf.ntmps15
  go_wp2
  go_ret
  exact ⟨rfl, rfl⟩

set_option maxHeartbeats 1600000 in
set_option maxRecDepth 100000 in
theorem zeroV_any (w : World) : Calls Tryf.prog 10 #[valV 0 0] w fun e w' => e = .returned (.bool true) ∧ Kept w w' [] := by
  have hnl : ∀ w, (binOp .eql 30 (.slice none 0 0) (.slice none 0 0)).run Tryf.prog w = .ok (.bool true) w := fun w => Lib.run_eql_slice_nil (P := Tryf.prog) w 30 9 none 0 0 0 0 Tryf.underlying30
  have ho : (FloatKind.f64.format.order 0 0 == some .eq) = true := by decide
  unfold valV
  go_enter Tryf.func10, Tryf.ntmps10
  go_wp2
  go_ret
  exact ⟨rfl, (Kept.refl _ _).alloc _⟩

end Fl
end Go.Proofs.Qxb6615471aFmt
