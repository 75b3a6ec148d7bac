/-
  PLAIN LAWS: words of 64 bits as numbers; the bit q of a list of words.
-/
import Derived.Laws.BitsAllLaws
namespace Go.Proofs.Qxb6615471aFmt.Fl
set_option linter.unusedVariables false

def WF (zs : List Int) : Prop := ∀ x ∈ zs, 0 ≤ x ∧ x < 18446744073709551616
/-- bit q of the words zs -/
def bo (zs : List Int) (q : Nat) : Bool := ((zs.getD (q / 64) 0).toNat).testBit (q % 64)
/-- the words with bit p set -/
def sb (zs : List Int) (p : Nat) : List Int := zs.set (p / 64) (((zs.getD (p / 64) 0).toNat ||| 2 ^ (p % 64) : Nat) : Int)

theorem wf_getD {zs : List Int} (h : WF zs) (i : Nat) : 0 ≤ zs.getD i 0 ∧ zs.getD i 0 < 18446744073709551616 := by
  rw [List.getD_eq_getElem?_getD]
  cases e : zs[i]? with
  | none => exact ⟨by decide, by decide⟩
  | some v => exact h v (List.mem_of_getElem? e)

theorem wf_set {zs : List Int} (h : WF zs) (i : Nat) (v : Int) (h0 : 0 ≤ v) (h1 : v < 18446744073709551616) : WF (zs.set i v) := by
  intro x hx
  rcases List.mem_or_eq_of_mem_set hx with hx | rfl
  · exact h x hx
  · exact ⟨h0, h1⟩

theorem or_lt (x j : Nat) (hx : x < 18446744073709551616) (hj : j < 64) : x ||| 2 ^ j < 18446744073709551616 := by
  have : (2 : Nat) ^ j < 2 ^ 64 := Nat.pow_lt_pow_right (by decide) hj
  exact Nat.or_lt_two_pow (n := 64) (by omega) (by omega)

theorem wf_sb {zs : List Int} (h : WF zs) (p : Nat) : WF (sb zs p) := by
  have := wf_getD h (p / 64)
  refine wf_set h _ _ (by omega) ?_
  have := or_lt (zs.getD (p / 64) 0).toNat (p % 64) (by omega) (by omega)
  omega

theorem getD_set_eq (zs : List Int) (i : Nat) (v : Int) (h : i < zs.length) : (zs.set i v).getD i 0 = v := by
  simp [List.getD_eq_getElem?_getD, h]
theorem getD_set_ne (zs : List Int) (i j : Nat) (v : Int) (h : i ≠ j) : (zs.set i v).getD j 0 = zs.getD j 0 := by
  simp [List.getD_eq_getElem?_getD, List.getElem?_set_ne h]

theorem len_sb (zs : List Int) (p : Nat) : (sb zs p).length = zs.length := by simp [sb]

theorem bo_sb (zs : List Int) (p q : Nat) (h : p / 64 < zs.length) : bo (sb zs p) q = (bo zs q || decide (q = p)) := by
  unfold bo sb
  by_cases e : p / 64 = q / 64
  · rw [← e, getD_set_eq _ _ _ h]
    have e1 : (((zs.getD (p / 64) 0).toNat ||| 2 ^ (p % 64) : Nat) : Int).toNat = (zs.getD (p / 64) 0).toNat ||| 2 ^ (p % 64) := by omega
    rw [e1, Nat.testBit_or, Nat.testBit_two_pow]
    congr 1
    by_cases c : q = p
    · subst c; simp
    · have : ¬ p % 64 = q % 64 := by omega
      simp [this, c]
  · rw [getD_set_ne _ _ _ _ e]
    have : ¬ q = p := fun c => e (by rw [c])
    simp [this]

theorem bo_zero (zs : List Int) (i q : Nat) (h : i < zs.length) : bo (zs.set i 0) q = (bo zs q && !decide (q / 64 = i)) := by
  unfold bo
  by_cases e : i = q / 64
  · subst e
    rw [getD_set_eq _ _ _ h]
    simp
  · rw [getD_set_ne _ _ _ _ e]
    have : ¬ q / 64 = i := fun c => e c.symm
    simp [this]

theorem word_ext (x y : Int) (hx : 0 ≤ x ∧ x < 18446744073709551616) (hy : 0 ≤ y ∧ y < 18446744073709551616) (h : ∀ j, j < 64 → x.toNat.testBit j = y.toNat.testBit j) : x = y := by
  have e : x.toNat = y.toNat := by
    apply Nat.eq_of_testBit_eq
    intro j
    by_cases c : j < 64
    · exact h j c
    · have p : (2 : Nat) ^ 64 ≤ 2 ^ j := Nat.pow_le_pow_right (by decide) (by omega)
      rw [Nat.testBit_lt_two_pow (by omega), Nat.testBit_lt_two_pow (by omega)]
  omega

theorem words_ext (zs zs' : List Int) (h : WF zs) (h' : WF zs') (hl : zs.length = zs'.length) (hb : ∀ q, bo zs q = bo zs' q) : zs = zs' := by
  apply List.ext_getElem hl
  intro i h1 h2
  have e1 : zs.getD i 0 = zs[i] := by simp [List.getD_eq_getElem?_getD, h1]
  have e2 : zs'.getD i 0 = zs'[i] := by simp [List.getD_eq_getElem?_getD, h2]
  rw [← e1, ← e2]
  refine word_ext _ _ (wf_getD h i) (wf_getD h' i) (fun j hj => ?_)
  have := hb (64 * i + j)
  unfold bo at this
  rwa [show (64 * i + j) / 64 = i by omega, show (64 * i + j) % 64 = j by omega] at this

/-- a word is nought just where none of its bits is set -/
theorem word_zero (zs : List Int) (h : WF zs) (i : Nat) : zs.getD i 0 = 0 ↔ ∀ q, q / 64 = i → bo zs q = false := by
  constructor
  · intro e q hq
    unfold bo
    rw [hq, e]
    simp
  · intro hq
    refine word_ext _ _ (wf_getD h i) (by omega) (fun j hj => ?_)
    have := hq (64 * i + j) (by omega)
    unfold bo at this
    rw [show (64 * i + j) / 64 = i by omega, show (64 * i + j) % 64 = j by omega] at this
    rw [this]
    simp

/-! ### as the walk spells them -/
theorem and63_u64 (p : Nat) (hp : p < 9223372036854775808) : bits .and .u64 (p : Int) 63 = ((p % 64 : Nat) : Int) := by
  have := u64_and_nat p 63 (by omega) (by omega)
  rw [nat_mask6] at this
  exact this

theorem and63_i32 (p : Nat) (hp : p < 2147483648) : bits .and .i32 (p : Int) 63 = ((p % 64 : Nat) : Int) := by
  have h63 : (BitVec.ofInt 32 (63 : Int)).toNat = 63 := by decide
  have hpb : (BitVec.ofInt 32 (p : Int)).toNat = p := by
    rw [BitVec.ofInt_natCast, BitVec.toNat_ofNat]; exact Nat.mod_eq_of_lt (by omega)
  show IntKind.i32.wrap ((BitVec.ofInt 32 (p : Int) &&& BitVec.ofInt 32 (63 : Int)).toNat : Int) = _
  rw [BitVec.toNat_and, hpb, h63, nat_mask6]
  have : p % 64 < 64 := Nat.mod_lt _ (by decide)
  generalize p % 64 = r at *
  simp [IntKind.wrap, IntKind.bits, IntKind.signed]
  omega

theorem shr_run {P : Program} (w : World) (x j : Nat) (hj : j < 64) (yk : IntKind) : (Op.shift .shr .u64 (x : Int) yk (j : Int)).run P w = .ok (.int .u64 ((x / 2 ^ j : Nat) : Int)) w := by
  have h1 : ¬ ((j : Int) < 0) := by omega
  have h2 : min j 64 = j := by omega
  have e : (x : Int).fdiv (2 ^ j) = ((x / 2 ^ j : Nat) : Int) := by
    rw [Int.fdiv_eq_ediv_of_nonneg _ (Int.le_of_lt (Int.pow_pos (by decide)))]
    norm_cast
  simp only [Op.shift, IntKind.bits, h1, if_false, Int.toNat_natCast, h2, e]
  rfl

theorem shl_run {P : Program} (w : World) (j : Nat) (hj : j < 64) (yk : IntKind) : (Op.shift .shl .u64 1 yk (j : Int)).run P w = .ok (.int .u64 ((2 ^ j : Nat) : Int)) w := by
  have h1 : ¬ ((j : Int) < 0) := by omega
  have h2 : min j 64 = j := by omega
  have hp : (2 : Nat) ^ j < 2 ^ 64 := Nat.pow_lt_pow_right (by decide) hj
  have e : IntKind.u64.wrap (1 * 2 ^ j) = ((2 ^ j : Nat) : Int) := by
    rw [IntKind.wrap_u64, Int.one_mul]
    have : ((2 ^ j : Nat) : Int) = (2 : Int) ^ j := by norm_cast
    rw [← this]
    generalize (2 : Nat) ^ j = y at *
    omega
  simp only [Op.shift, IntKind.bits, h1, if_false, Int.toNat_natCast, h2, e]
  rfl

/-- the two shifts, as the walk writes them -/
theorem shr_eq (x j : Nat) (hj : j < 64) : (x : Int) / 2 ^ min j 64 = ((x / 2 ^ j : Nat) : Int) := by
  rw [show min j 64 = j by omega]
  norm_cast

theorem shl_eq (j : Nat) (hj : j < 64) : IntKind.u64.wrap (2 ^ min j 64) = ((2 ^ j : Nat) : Int) := by
  have h2 : min j 64 = j := by omega
  have hp : (2 : Nat) ^ j < 2 ^ 64 := Nat.pow_lt_pow_right (by decide) hj
  rw [IntKind.wrap_u64, h2]
  have : ((2 ^ j : Nat) : Int) = (2 : Int) ^ j := by norm_cast
  rw [← this]
  generalize (2 : Nat) ^ j = y at *
  omega

theorem and1_ne (x j : Nat) (hx : x < 18446744073709551616) : (bits .and .u64 ((x / 2 ^ j : Nat) : Int) 1 != 0) = x.testBit j := by
  have hd : x / 2 ^ j ≤ x := Nat.div_le_self _ _
  have := u64_and_nat (x / 2 ^ j) 1 (by omega) (by decide)
  rw [nat_mask1] at this
  rw [show ((1 : Nat) : Int) = 1 from rfl] at this
  rw [this, Nat.testBit_eq_decide_div_mod_eq]
  have hm : x / 2 ^ j % 2 < 2 := Nat.mod_lt _ (by decide)
  generalize x / 2 ^ j % 2 = r at *
  rcases Nat.lt_or_ge r 1 with h | h
  · have : r = 0 := by omega
    subst this; rfl
  · have : r = 1 := by omega
    subst this; rfl

theorem andpow_ne (x j : Nat) (hx : x < 18446744073709551616) (hj : j < 64) : (bits .and .u64 (x : Int) ((2 ^ j : Nat) : Int) != 0) = x.testBit j := by
  have hp : (2 : Nat) ^ j < 2 ^ 64 := Nat.pow_lt_pow_right (by decide) hj
  rw [u64_and_nat x (2 ^ j) hx (by omega), nat_bit, Nat.testBit_eq_decide_div_mod_eq]
  have hm : x / 2 ^ j % 2 < 2 := Nat.mod_lt _ (by decide)
  have hpos : 0 < (2 : Nat) ^ j := Nat.pow_pos (by decide)
  generalize x / 2 ^ j % 2 = r at *
  rcases Nat.lt_or_ge r 1 with h | h
  · have : r = 0 := by omega
    subst this; simp
  · have : r = 1 := by omega
    subst this
    rw [Nat.one_mul, decide_eq_true rfl, bne_iff_ne]
    generalize (2 : Nat) ^ j = y at *
    omega

theorem orpow (x j : Nat) (hx : x < 18446744073709551616) (hj : j < 64) : bits .or .u64 (x : Int) ((2 ^ j : Nat) : Int) = ((x ||| 2 ^ j : Nat) : Int) := by
  have hp : (2 : Nat) ^ j < 2 ^ 64 := Nat.pow_lt_pow_right (by decide) hj
  exact u64_or_nat x (2 ^ j) hx (by omega)

theorem and_zero (x : Nat) (hx : x < 18446744073709551616) : bits .and .u64 (x : Int) 0 = 0 := by
  have := u64_and_nat x 0 hx (by decide)
  simpa using this
theorem or_zero (x : Nat) (hx : x < 18446744073709551616) : bits .or .u64 (x : Int) 0 = (x : Int) := by
  have := u64_or_nat x 0 hx (by decide)
  simpa using this
theorem zero_or (x : Nat) (hx : x < 18446744073709551616) : bits .or .u64 0 (x : Int) = (x : Int) := by
  have := u64_or_nat 0 x (by decide) hx
  simpa using this
theorem andNot_zero (x : Nat) (hx : x < 18446744073709551616) : bits .andNot .u64 (x : Int) 0 = (x : Int) := by
  have := u64_andNot_nat x 0 hx (by decide)
  have e : x &&& (18446744073709551615 - 0) = x := by
    have := Nat.and_two_pow_sub_one_eq_mod x 64
    rw [show (2 : Nat) ^ 64 - 1 = 18446744073709551615 from rfl] at this
    rw [Nat.sub_zero, this]
    exact Nat.mod_eq_of_lt hx
  rw [e] at this
  exact this
theorem or_nat (x y : Nat) (hx : x < 18446744073709551616) (hy : y < 18446744073709551616) : bits .or .u64 (x : Int) (y : Int) = ((x ||| y : Nat) : Int) := u64_or_nat x y hx hy

end Go.Proofs.Qxb6615471aFmt.Fl
