/-
  THE WALKS of math's functions: Abs, IsInf, IsNaN, normalize, ldexp, Ldexp, overflows.
-/
import Derived.Test.Qxb6615471aFmtChecked
import Derived.Test.Qxb6615471aFmtMem
import Derived.Test.Qxb6615471aFmtWord
import Derived.Laws.FloatArith
import Derived.WalkSpells
import Derived.WalkLawsBesides
import Derived.RegionTactic
import Derived.BigQuiet
namespace Go.Proofs.Qxb6615471aFmt
open Go.RowKit
set_option linter.unusedVariables false
namespace Fl

@[go_sem] theorem call36 (x : Nat) (w : World) : (callFunc 36 #[.float .f64 x]).run Tryf.prog w = .ok (.value (.int .u64 x)) w := by kernel_rfl
@[go_sem] theorem call35 (x : Nat) (w : World) : (callFunc 35 #[.int .u64 (x : Int)]).run Tryf.prog w = .ok (.value (.float .f64 x)) w := by kernel_rfl

theorem abs_any (x r : Nat) (w : World) (h : bits .andNot .u64 (x : Int) 9223372036854775808 = (r : Int)) :
    Calls Tryf.prog 32 #[.float .f64 x] w fun e w' => e = .returned (.float .f64 r) ∧ w' = w := by
  go_enter Tryf.func32, Tryf.ntmps32
  go_wp2
  go_ret
  exact ⟨rfl, rfl⟩

theorem and_i64 (p m : Nat) (hp : p < 9223372036854775808) (hm : m < 9223372036854775808) : bits .and .i64 (p : Int) (m : Int) = ((p &&& m : Nat) : Int) := by
  have hpb : (BitVec.ofInt 64 (p : Int)).toNat = p := by
    rw [BitVec.ofInt_natCast, BitVec.toNat_ofNat]; exact Nat.mod_eq_of_lt (by omega)
  have hmb : (BitVec.ofInt 64 (m : Int)).toNat = m := by
    rw [BitVec.ofInt_natCast, BitVec.toNat_ofNat]; exact Nat.mod_eq_of_lt (by omega)
  show IntKind.i64.wrap ((BitVec.ofInt 64 (p : Int) &&& BitVec.ofInt 64 (m : Int)).toNat : Int) = _
  rw [BitVec.toNat_and, hpb, hmb]
  have : p &&& m ≤ p := Nat.and_le_left
  generalize p &&& m = r at *
  simp [IntKind.wrap, IntKind.bits, IntKind.signed]
  omega

theorem andNot_top (x : Nat) (hx : x < 18446744073709551616) : bits .andNot .u64 (x : Int) 9223372036854775808 = ((x % 2 ^ 63 : Nat) : Int) := by
  have h := u64_andNot_nat x 9223372036854775808 hx (by decide)
  have e := Nat.and_two_pow_sub_one_eq_mod x 63
  rw [show 18446744073709551615 - 9223372036854775808 = 2 ^ 63 - 1 by decide, e] at h
  exact h

theorem andNot_exp (x : Nat) (hx : x < 9223372036854775808) : bits .andNot .u64 (x : Int) 9218868437227405312 = ((x % 2 ^ 52 : Nat) : Int) := by
  have h := u64_andNot_nat x 9218868437227405312 (by omega) (by decide)
  have e := Nat.and_two_pow_sub_one_eq_mod x 52
  have e2 : x &&& 2 ^ 63 = 0 := by
    rw [nat_bit, Nat.div_eq_of_lt hx]
  rw [show 18446744073709551615 - 9218868437227405312 = 2 ^ 63 ||| (2 ^ 52 - 1) by decide, Nat.and_or_distrib_left, e, e2, Nat.zero_or] at h
  exact h

theorem isInf_any (x r : Nat) (t : Bool) (w : World) (h : bits .andNot .u64 (x : Int) 9223372036854775808 = (r : Int)) (ht : (FloatKind.f64.format.order r 9218868437227405311 == some .gt) = t) :
    Calls Tryf.prog 24 #[.float .f64 x, .int .i64 0] w fun e w' => e = .returned (.bool t) ∧ w' = w := by
  go_enter Tryf.func24, Tryf.ntmps24
  go_wp2_with fail
  refine (abs_any x r w h).mono ?_
  rintro e w' ⟨rfl, hw⟩
  subst w'
  go_wp2
  go_ret
  exact ⟨rfl, rfl⟩

/-- a float of a rung and a sign: is it infinite? -/
theorem isInf_word (s : Bool) (r : Nat) (w : World) (hr : r ≤ 2047 * 2 ^ 52) :
    Calls Tryf.prog 24 #[.float .f64 (Ieee.double.word s r), .int .i64 0] w fun e w' => e = .returned (.bool (decide (r = 2047 * 2 ^ 52))) ∧ w' = w := by
  refine isInf_any _ r _ w ?_ (order_big r hr)
  have h := andNot_top (Ieee.double.word s r) (by cases s <;> simp only [word_no, word_yes] <;> omega)
  rw [h]
  cases s <;> simp only [word_no, word_yes] <;> omega

theorem over_word (s : Bool) (r : Nat) (w : World) (hr : r ≤ 2047 * 2 ^ 52) :
    Calls Tryf.prog 19 #[.float .f64 (Ieee.double.word s r)] w fun e w' => e = .returned (.bool (decide (r = 2047 * 2 ^ 52))) ∧ w' = w := by
  have h := isInf_word s r w hr
  generalize Ieee.double.word s r = x at *
  generalize decide (r = 2047 * 2 ^ 52) = t at *
  go_enter Tryf.func19, Tryf.ntmps19
  go_wp2_with fail
  refine h.mono ?_
  rintro e w' ⟨rfl, hw⟩
  subst w'
  go_wp2
  go_ret
  exact ⟨rfl, rfl⟩

theorem isNaN_any (x : Nat) (t : Bool) (w : World) (ht : (FloatKind.f64.format.order x x != some .eq) = t) :
    Calls Tryf.prog 37 #[.float .f64 x] w fun e w' => e = .returned (.bool t) ∧ w' = w := by
  go_enter Tryf.func37, Tryf.ntmps37
  go_wp2
  go_ret
  exact ⟨rfl, rfl⟩

theorem normalize_any (x : Nat) (w : World) (h : bits .andNot .u64 (x : Int) 9223372036854775808 = (x : Int)) (ht : (FloatKind.f64.format.order x 4503599627370496 == some .lt) = false) :
    Calls Tryf.prog 38 #[.float .f64 x] w fun e w' => e = .returned (.tuple #[.float .f64 x, .int .i64 0]) ∧ w' = w := by
  go_enter Tryf.func38, Tryf.ntmps38
  go_wp2_with fail
  refine (abs_any x x w h).mono ?_
  rintro e w' ⟨rfl, hw⟩
  subst w'
  go_wp2
  go_ret2
  exact ⟨rfl, rfl⟩

theorem inf_any (w : World) : Calls Tryf.prog 40 #[.int .i64 1] w fun e w' => e = .returned (.float .f64 9218868437227405312) ∧ w' = w := by
  have h : (callFunc 35 #[.int .u64 9218868437227405312]).run Tryf.prog w = .ok (.value (.float .f64 9218868437227405312)) w := call35 _ w
  go_enter Tryf.func40, Tryf.ntmps40
  go_wp2
  go_ret
  exact ⟨rfl, rfl⟩

theorem copysign_any (x : Nat) (w : World) (h1 : bits .and .u64 (x : Int) 9223372036854775808 = 0) : Calls Tryf.prog 39 #[.float .f64 0, .float .f64 x] w fun e w' => e = .returned (.float .f64 0) ∧ w' = w := by
  have h : (callFunc 36 #[.float .f64 0]).run Tryf.prog w = .ok (.value (.int .u64 0)) w := call36 0 w
  have h2 : (callFunc 35 #[.int .u64 0]).run Tryf.prog w = .ok (.value (.float .f64 0)) w := call35 0 w
  have e1 : bits .andNot .u64 0 9223372036854775808 = 0 := by decide
  have e2 : bits .or .u64 0 0 = 0 := by decide
  go_enter Tryf.func39, Tryf.ntmps39
  go_wp2
  go_ret
  exact ⟨rfl, rfl⟩

theorem order_normal (x : Nat) (h1 : 2 ^ 52 ≤ x) (h2 : x ≤ 2047 * 2 ^ 52) : (FloatKind.f64.format.order x 4503599627370496 == some .lt) = false := by
  show (Ieee.double.order x 4503599627370496 == some .lt) = false
  have z : Ieee.double.read 4503599627370496 = .number false (2 ^ 52) (-1074) := by decide
  unfold Ieee.Format.order
  rw [read_rung x h2, z]
  unfold rd
  rw [if_neg (by omega)]
  by_cases c2 : x < 2047 * 2 ^ 52
  · rw [if_pos c2]
    simp only [Ieee.Datum.order, Ieee.signed, Nat.shiftLeft_eq]
    obtain ⟨P, hP⟩ : ∃ P : Int, P = ((x / 2 ^ 52 : Nat) : Int) - 1075 := ⟨_, rfl⟩
    rw [← hP]
    have hP1 : -1074 ≤ P := by omega
    have e1 : (P - min P (-1074)).toNat = (P + 1074).toNat := by omega
    have e2 : (-1074 - min P (-1074)).toNat = 0 := by omega
    rw [e1, e2]
    have hp : 1 ≤ 2 ^ (P + 1074).toNat := Nat.two_pow_pos _
    have hq : (2 ^ 52 + x % 2 ^ 52) * 1 ≤ (2 ^ 52 + x % 2 ^ 52) * 2 ^ (P + 1074).toNat := Nat.mul_le_mul_left _ hp
    generalize (2 ^ 52 + x % 2 ^ 52) * 2 ^ (P + 1074).toNat = B at *
    simp only [compare, compareOfLessAndEq]
    rw [if_neg (by simp; omega)]
    by_cases c3 : B = 2 ^ 52 * 2 ^ 0
    · rw [if_pos (by simp; omega)]
      rfl
    · rw [if_neg (by simp; omega)]
      rfl
  · rw [if_neg c2]
    rfl

theorem ldexp_norm (x E fr : Nat) (e : Int) (w : World) (X R : Nat) (h1 : 2 ^ 52 ≤ x) (h2 : x < 2047 * 2 ^ 52) (he1 : -1099511627776 ≤ e) (he2 : e ≤ 1099511627776)
    (hE : (x : Int) / 4503599627370496 = (E : Int)) (hE1 : 1 ≤ E) (hE2 : E ≤ 2046) (hA : bits .andNot .u64 (x : Int) 9223372036854775808 = (x : Int)) (hN : (FloatKind.f64.format.order x 4503599627370496 == some .lt) = false)
    (hI : (FloatKind.f64.format.order x 9218868437227405311 == some .gt) = false) (hZ : (FloatKind.f64.format.order x 0 == some .eq) = false) (hS : (FloatKind.f64.format.order x x != some .eq) = false)
    (hM : bits .and .i64 (E : Int) 2047 = (E : Int)) (hF : bits .andNot .u64 (x : Int) 9218868437227405312 = (fr : Int)) (hc : -1022 ≤ e + ((E : Int) - 1023)) (hc2 : e + ((E : Int) - 1023) ≤ 1023) (hO : bits .or .u64 (fr : Int) ((e + ((E : Int) - 1023) + 1023) * 4503599627370496) = (X : Int)) (hR : FloatKind.f64.format.mul 4607182418800017408 X = some R) :
    Calls Tryf.prog 34 #[.float .f64 x, .int .i64 e] w fun e' w' => e' = .returned (.float .f64 R) ∧ w' = w := by
  have hi := isInf_any x x false w hA hI
  have hn := isNaN_any x false w hS
  have ho := normalize_any x w hA hN
  have hmul : (binOp .mul 26 (.float .f64 4607182418800017408) (.float .f64 X)).run Tryf.prog w = .ok (.float .f64 R) w := run_float_arith w .mul 26 .f64 _ _ _ hR
  go_enter Tryf.func34, Tryf.ntmps34
  go_wp2_with fail
  refine hi.mono ?_
  rintro e' w' ⟨rfl, hw⟩
  subst w'
  go_wp2_with fail
  refine hn.mono ?_
  rintro e' w' ⟨rfl, hw⟩
  subst w'
  go_wp2_with fail
  refine ho.mono ?_
  rintro e' w' ⟨rfl, hw⟩
  subst w'
  clear hi hn ho
  go_wp2
  go_ret
  exact ⟨rfl, rfl⟩

theorem ldexp_sub (x E fr : Nat) (e : Int) (w : World) (X R : Nat) (h1 : 2 ^ 52 ≤ x) (h2 : x < 2047 * 2 ^ 52) (he1 : -1099511627776 ≤ e) (he2 : e ≤ 1099511627776)
    (hE : (x : Int) / 4503599627370496 = (E : Int)) (hE1 : 1 ≤ E) (hE2 : E ≤ 2046) (hA : bits .andNot .u64 (x : Int) 9223372036854775808 = (x : Int)) (hN : (FloatKind.f64.format.order x 4503599627370496 == some .lt) = false)
    (hI : (FloatKind.f64.format.order x 9218868437227405311 == some .gt) = false) (hZ : (FloatKind.f64.format.order x 0 == some .eq) = false) (hS : (FloatKind.f64.format.order x x != some .eq) = false)
    (hM : bits .and .i64 (E : Int) 2047 = (E : Int)) (hF : bits .andNot .u64 (x : Int) 9218868437227405312 = (fr : Int)) (hc : -1075 ≤ e + ((E : Int) - 1023)) (hc2 : e + ((E : Int) - 1023) < -1022) (hO : bits .or .u64 (fr : Int) ((e + ((E : Int) - 1023) + 53 + 1023) * 4503599627370496) = (X : Int)) (hR : FloatKind.f64.format.mul 4368491638549381120 X = some R) :
    Calls Tryf.prog 34 #[.float .f64 x, .int .i64 e] w fun e' w' => e' = .returned (.float .f64 R) ∧ w' = w := by
  have hi := isInf_any x x false w hA hI
  have hn := isNaN_any x false w hS
  have ho := normalize_any x w hA hN
  have hmul : (binOp .mul 26 (.float .f64 4368491638549381120) (.float .f64 X)).run Tryf.prog w = .ok (.float .f64 R) w := run_float_arith w .mul 26 .f64 _ _ _ hR
  go_enter Tryf.func34, Tryf.ntmps34
  go_wp2_with fail
  refine hi.mono ?_
  rintro e' w' ⟨rfl, hw⟩
  subst w'
  go_wp2_with fail
  refine hn.mono ?_
  rintro e' w' ⟨rfl, hw⟩
  subst w'
  go_wp2_with fail
  refine ho.mono ?_
  rintro e' w' ⟨rfl, hw⟩
  subst w'
  clear hi hn ho
  go_wp2
  go_ret
  exact ⟨rfl, rfl⟩

theorem ldexp_big (x E fr : Nat) (e : Int) (w : World) (X R : Nat) (h1 : 2 ^ 52 ≤ x) (h2 : x < 2047 * 2 ^ 52) (he1 : -1099511627776 ≤ e) (he2 : e ≤ 1099511627776)
    (hE : (x : Int) / 4503599627370496 = (E : Int)) (hE1 : 1 ≤ E) (hE2 : E ≤ 2046) (hA : bits .andNot .u64 (x : Int) 9223372036854775808 = (x : Int)) (hN : (FloatKind.f64.format.order x 4503599627370496 == some .lt) = false)
    (hI : (FloatKind.f64.format.order x 9218868437227405311 == some .gt) = false) (hZ : (FloatKind.f64.format.order x 0 == some .eq) = false) (hS : (FloatKind.f64.format.order x x != some .eq) = false)
    (hM : bits .and .i64 (E : Int) 2047 = (E : Int)) (hF : bits .andNot .u64 (x : Int) 9218868437227405312 = (fr : Int)) (hc : 1023 < e + ((E : Int) - 1023)) (hL : (FloatKind.f64.format.order x 0 == some .lt) = false) :
    Calls Tryf.prog 34 #[.float .f64 x, .int .i64 e] w fun e' w' => e' = .returned (.float .f64 9218868437227405312) ∧ w' = w := by
  have hi := isInf_any x x false w hA hI
  have hn := isNaN_any x false w hS
  have ho := normalize_any x w hA hN
  have hinf := inf_any w
  go_enter Tryf.func34, Tryf.ntmps34
  go_wp2_with fail
  refine hi.mono ?_
  rintro e' w' ⟨rfl, hw⟩
  subst w'
  go_wp2_with fail
  refine hn.mono ?_
  rintro e' w' ⟨rfl, hw⟩
  subst w'
  go_wp2_with fail
  refine ho.mono ?_
  rintro e' w' ⟨rfl, hw⟩
  subst w'
  clear hi hn ho
  go_wp2_with fail
  refine hinf.mono ?_
  rintro e' w' ⟨rfl, hw⟩
  subst w'
  go_wp2
  go_ret
  exact ⟨rfl, rfl⟩

theorem ldexp_low (x E fr : Nat) (e : Int) (w : World) (X R : Nat) (h1 : 2 ^ 52 ≤ x) (h2 : x < 2047 * 2 ^ 52) (he1 : -1099511627776 ≤ e) (he2 : e ≤ 1099511627776)
    (hE : (x : Int) / 4503599627370496 = (E : Int)) (hE1 : 1 ≤ E) (hE2 : E ≤ 2046) (hA : bits .andNot .u64 (x : Int) 9223372036854775808 = (x : Int)) (hN : (FloatKind.f64.format.order x 4503599627370496 == some .lt) = false)
    (hI : (FloatKind.f64.format.order x 9218868437227405311 == some .gt) = false) (hZ : (FloatKind.f64.format.order x 0 == some .eq) = false) (hS : (FloatKind.f64.format.order x x != some .eq) = false)
    (hM : bits .and .i64 (E : Int) 2047 = (E : Int)) (hF : bits .andNot .u64 (x : Int) 9218868437227405312 = (fr : Int)) (hc : e + ((E : Int) - 1023) < -1075) (hB : bits .and .u64 (x : Int) 9223372036854775808 = 0) :
    Calls Tryf.prog 34 #[.float .f64 x, .int .i64 e] w fun e' w' => e' = .returned (.float .f64 0) ∧ w' = w := by
  have hi := isInf_any x x false w hA hI
  have hn := isNaN_any x false w hS
  have ho := normalize_any x w hA hN
  have hcp := copysign_any x w hB
  go_enter Tryf.func34, Tryf.ntmps34
  go_wp2_with fail
  refine hi.mono ?_
  rintro e' w' ⟨rfl, hw⟩
  subst w'
  go_wp2_with fail
  refine hn.mono ?_
  rintro e' w' ⟨rfl, hw⟩
  subst w'
  go_wp2_with fail
  refine ho.mono ?_
  rintro e' w' ⟨rfl, hw⟩
  subst w'
  clear hi hn ho
  go_wp2_with fail
  refine hcp.mono ?_
  rintro e' w' ⟨rfl, hw⟩
  subst w'
  go_wp2
  go_ret
  exact ⟨rfl, rfl⟩

/-- WHAT ldexp GIVES of a normal number above 0 -/
theorem ldexp_any (x : Nat) (e : Int) (w : World) (h1 : 2 ^ 52 ≤ x) (h2 : x < 2047 * 2 ^ 52) (he1 : -1099511627776 ≤ e) (he2 : e ≤ 1099511627776) :
    Calls Tryf.prog 34 #[.float .f64 x, .int .i64 e] w fun e' w' => e' = .returned (.float .f64 (rung (2 ^ 52 + x % 2 ^ 52) ((x / 2 ^ 52 : Nat) - 1075 + e))) ∧ w' = w := by
  obtain ⟨E, hE⟩ : ∃ E, E = x / 2 ^ 52 := ⟨_, rfl⟩
  obtain ⟨fr, hfr⟩ : ∃ fr, fr = x % 2 ^ 52 := ⟨_, rfl⟩
  have hE' : (x : Int) / 4503599627370496 = (E : Int) := by omega
  have hE1 : 1 ≤ E := by omega
  have hE2 : E ≤ 2046 := by omega
  have hA : bits .andNot .u64 (x : Int) 9223372036854775808 = (x : Int) := by
    rw [andNot_top x (by omega), Nat.mod_eq_of_lt (by omega)]
  have hN := order_normal x h1 (by omega)
  have hI : (FloatKind.f64.format.order x 9218868437227405311 == some .gt) = false := by
    have := order_big x (by omega)
    rw [decide_eq_false (by omega)] at this
    exact this
  have hg : FloatKind.f64.format.order x 0 = some .gt := order_pos x (by omega) (by omega)
  have hZ : (FloatKind.f64.format.order x 0 == some .eq) = false := by rw [hg]; rfl
  have hL : (FloatKind.f64.format.order x 0 == some .lt) = false := by rw [hg]; rfl
  have hS : (FloatKind.f64.format.order x x != some .eq) = false := by
    have : FloatKind.f64.format.order x x = some .eq := order_self false x (by omega)
    rw [this]; rfl
  have hM : bits .and .i64 (E : Int) 2047 = (E : Int) := by
    have := and_i64 E 2047 (by omega) (by decide)
    have e2 := Nat.and_two_pow_sub_one_eq_mod E 11
    rw [show 2047 = 2 ^ 11 - 1 by decide, e2, Nat.mod_eq_of_lt (by omega)] at this
    exact this
  have hF : bits .andNot .u64 (x : Int) 9218868437227405312 = (fr : Int) := by rw [hfr]; exact andNot_exp x (by omega)
  have hB : bits .and .u64 (x : Int) 9223372036854775808 = 0 := by
    have := u64_and_nat x (2 ^ 63) (by omega) (by decide)
    rw [nat_bit, Nat.div_eq_of_lt (by omega)] at this
    exact this
  have hor : ∀ Ex : Nat, Ex ≤ 2046 → bits .or .u64 (fr : Int) ((Ex : Int) * 4503599627370496) = ((Ex * 2 ^ 52 + fr : Nat) : Int) := by
    intro Ex hEx
    have h := or_nat fr (Ex * 2 ^ 52) (by omega) (by omega)
    rw [Nat.or_comm, nat_join 52 (Ex * 2 ^ 52) fr (Nat.mul_mod_left _ _) (by omega)] at h
    rw [← h]
    congr 1
  rw [← hE, ← hfr]
  by_cases c1 : e + ((E : Int) - 1023) < -1075
  · have hu := ldexp_under x e (by rw [← hE]; omega)
    rw [← hE, ← hfr] at hu
    rw [hu]
    exact ldexp_low x E fr e w 0 0 h1 h2 he1 he2 hE' hE1 hE2 hA hN hI hZ hS hM hF c1 hB
  by_cases c2 : 1023 < e + ((E : Int) - 1023)
  · have hu := ldexp_over x e (by rw [← hE]; omega)
    rw [← hE, ← hfr] at hu
    rw [hu]
    exact ldexp_big x E fr e w 0 0 h1 h2 he1 he2 hE' hE1 hE2 hA hN hI hZ hS hM hF c2 hL
  by_cases c3 : e + ((E : Int) - 1023) < -1022
  · obtain ⟨Ex, hEx⟩ := Int.eq_ofNat_of_zero_le (show 0 ≤ e + ((E : Int) - 1023) + 53 + 1023 by omega)
    have hm := mul_pow 970 (Ex * 2 ^ 52 + fr) (by decide) (by decide) (by omega) (by omega)
    have z1 : (Ex * 2 ^ 52 + fr) % 2 ^ 52 = fr := by omega
    have z2 : (Ex * 2 ^ 52 + fr) / 2 ^ 52 = Ex := by omega
    rw [z1, z2] at hm
    have z3 : ((Ex : Nat) : Int) - 1075 + (((970 : Nat) : Int) - 1023) = (E : Int) - 1075 + e := by omega
    rw [z3] at hm
    refine ldexp_sub x E fr e w (Ex * 2 ^ 52 + fr) _ h1 h2 he1 he2 hE' hE1 hE2 hA hN hI hZ hS hM hF (by omega) c3 ?_ hm
    rw [hEx]
    exact hor Ex (by omega)
  · obtain ⟨Ex, hEx⟩ := Int.eq_ofNat_of_zero_le (show 0 ≤ e + ((E : Int) - 1023) + 1023 by omega)
    have hm := mul_pow 1023 (Ex * 2 ^ 52 + fr) (by decide) (by decide) (by omega) (by omega)
    have z1 : (Ex * 2 ^ 52 + fr) % 2 ^ 52 = fr := by omega
    have z2 : (Ex * 2 ^ 52 + fr) / 2 ^ 52 = Ex := by omega
    rw [z1, z2] at hm
    have z3 : ((Ex : Nat) : Int) - 1075 + (((1023 : Nat) : Int) - 1023) = (E : Int) - 1075 + e := by omega
    rw [z3] at hm
    refine ldexp_norm x E fr e w (Ex * 2 ^ 52 + fr) _ h1 h2 he1 he2 hE' hE1 hE2 hA hN hI hZ hS hM hF (by omega) (by omega) ?_ hm
    rw [hEx]
    exact hor Ex (by omega)

theorem Ldexp_any (x : Nat) (e : Int) (w : World) (h1 : 2 ^ 52 ≤ x) (h2 : x < 2047 * 2 ^ 52) (he1 : -1099511627776 ≤ e) (he2 : e ≤ 1099511627776) :
    Calls Tryf.prog 29 #[.float .f64 x, .int .i64 e] w fun e' w' => e' = .returned (.float .f64 (rung (2 ^ 52 + x % 2 ^ 52) ((x / 2 ^ 52 : Nat) - 1075 + e))) ∧ w' = w := by
  have h := ldexp_any x e w h1 h2 he1 he2
  generalize rung (2 ^ 52 + x % 2 ^ 52) ((x / 2 ^ 52 : Nat) - 1075 + e) = R at *
  go_enter Tryf.func29, Tryf.ntmps29
  go_wp2_with fail
  refine h.mono ?_
  rintro e' w' ⟨rfl, hw⟩
  subst w'
  go_wp2
  go_ret
  exact ⟨rfl, rfl⟩

end Fl
end Go.Proofs.Qxb6615471aFmt
