/-
  DIGITS in base 2 ^ 32: what they stand for; the top 64 bits of a number out of its digits.
-/
import Derived.Test.Qxb6615471aFmtNear
import Derived.Laws.BitsAllLaws
import Derived.Lib.BitFns
namespace Go.Proofs.Qxb6615471aFmt
namespace Fl

/-- what digits stand for, the least first -/
def val : List Int → Int
  | [] => 0
  | d :: ds => d + 4294967296 * val ds

theorem val_append (xs ys : List Int) : val (xs ++ ys) = val xs + 4294967296 ^ xs.length * val ys := by
  induction xs with
  | nil => simp [val]
  | cons x xs ih =>
    simp only [List.cons_append, val, ih, List.length_cons, Int.pow_succ]
    rw [Int.mul_add, ← Int.mul_assoc, Int.mul_comm 4294967296 (4294967296 ^ xs.length)]
    omega

theorem val_snoc (xs : List Int) (d : Int) : val (xs ++ [d]) = val xs + 4294967296 ^ xs.length * d := by
  rw [val_append]
  simp [val]

theorem val_set (xs : List Int) (i : Nat) (v : Int) (h : i < xs.length) : val (xs.set i v) = val xs + 4294967296 ^ i * (v - xs.getD i 0) := by
  induction xs generalizing i with
  | nil => simp at h
  | cons x xs ih =>
    cases i with
    | zero => simp [val]; omega
    | succ i =>
      have := ih i (by simpa using h)
      simp only [List.set_cons_succ, val, this, List.getD_cons_succ, Int.pow_succ]
      rw [Int.mul_add, ← Int.mul_assoc, Int.mul_comm 4294967296 (4294967296 ^ i)]
      omega

theorem val_take_succ (xs : List Int) (k : Nat) (h : k < xs.length) : val (xs.take (k + 1)) = val (xs.take k) + 4294967296 ^ k * xs.getD k 0 := by
  have e : xs.take (k + 1) = xs.take k ++ [xs.getD k 0] := by
    rw [List.take_add_one]
    simp [List.getElem?_eq_getElem h, List.getD_eq_getElem?_getD]
  rw [e, val_snoc, List.length_take, Nat.min_eq_left (by omega)]

theorem val_bounds (xs : List Int) (h : ∀ i, i < xs.length → 0 ≤ xs.getD i 0 ∧ xs.getD i 0 < 4294967296) : 0 ≤ val xs ∧ val xs < 4294967296 ^ xs.length := by
  induction xs with
  | nil => simp [val]
  | cons x xs ih =>
    have h0 := h 0 (by simp)
    have := ih (fun i hi => by simpa using h (i + 1) (by simpa using hi))
    simp only [List.getD_cons_zero] at h0
    simp only [val, List.length_cons, Int.pow_succ]
    omega

theorem val_zero (xs : List Int) (h : ∀ i, i < xs.length → xs.getD i 0 = 0) : val xs = 0 := by
  induction xs with
  | nil => rfl
  | cons x xs ih =>
    have h0 := h 0 (by simp)
    have := ih (fun i hi => by simpa using h (i + 1) (by simpa using hi))
    simp only [List.getD_cons_zero] at h0
    simp only [val]
    omega

theorem val_zero' (xs : List Int) (h : ∀ i, i < xs.length → 0 ≤ xs.getD i 0 ∧ xs.getD i 0 < 4294967296) (hv : val xs = 0) : ∀ i, i < xs.length → xs.getD i 0 = 0 := by
  induction xs with
  | nil => intro i hi; simp at hi
  | cons x xs ih =>
    have h0 := h 0 (by simp)
    have hb := val_bounds xs (fun i hi => by simpa using h (i + 1) (by simpa using hi))
    simp only [List.getD_cons_zero] at h0
    simp only [val] at hv
    have hx : x = 0 := by omega
    have := ih (fun i hi => by simpa using h (i + 1) (by simpa using hi)) (by omega)
    intro i hi
    cases i with
    | zero => simpa using hx
    | succ i => simpa using this i (by simpa using hi)

theorem take_getD (xs : List Int) (k i : Nat) (h : i < k) : (xs.take k).getD i 0 = xs.getD i 0 := by
  rw [List.getD_eq_getElem?_getD, List.getD_eq_getElem?_getD, List.getElem?_take, if_pos h]

/-- the digits of a number in base 2 ^ 32, as the list of a carried sum -/
structure Carried (zs : List Int) : Prop where
  low : ∀ i, i + 1 < zs.length → 0 ≤ zs.getD i 0 ∧ zs.getD i 0 < 4294967296
  last : -2147483648 ≤ zs.getD (zs.length - 1) 0 ∧ zs.getD (zs.length - 1) 0 < 2147483648

theorem val_last (zs : List Int) (h : zs ≠ []) : val zs = val (zs.take (zs.length - 1)) + 4294967296 ^ (zs.length - 1) * zs.getD (zs.length - 1) 0 := by
  have hl : 0 < zs.length := List.length_pos_iff.2 h
  have := val_take_succ zs (zs.length - 1) (by omega)
  rw [show zs.length - 1 + 1 = zs.length by omega, List.take_length] at this
  exact this

theorem Carried.lower {zs : List Int} (c : Carried zs) : 0 ≤ val (zs.take (zs.length - 1)) ∧ val (zs.take (zs.length - 1)) < 4294967296 ^ (zs.length - 1) := by
  have hl : (zs.take (zs.length - 1)).length = zs.length - 1 := by rw [List.length_take]; omega
  have := val_bounds (zs.take (zs.length - 1)) (fun i hi => by rw [hl] at hi; rw [take_getD _ _ _ hi]; exact c.low i (by omega))
  rw [hl] at this
  exact this

theorem Carried.neg {zs : List Int} (c : Carried zs) (h : zs ≠ []) (hn : zs.getD (zs.length - 1) 0 < 0) : val zs < 0 := by
  have := c.lower
  rw [val_last zs h]
  have hp : (0 : Int) < 4294967296 ^ (zs.length - 1) := Int.pow_pos (by decide)
  have : 4294967296 ^ (zs.length - 1) * zs.getD (zs.length - 1) 0 ≤ 4294967296 ^ (zs.length - 1) * (-1) := Int.mul_le_mul_of_nonneg_left (by omega) (by omega)
  omega

theorem Carried.all {zs : List Int} (c : Carried zs) (hn : 0 ≤ zs.getD (zs.length - 1) 0) : ∀ i, i < zs.length → 0 ≤ zs.getD i 0 ∧ zs.getD i 0 < 4294967296 := by
  intro i hi
  by_cases e : i + 1 < zs.length
  · exact c.low i e
  · have e' : i = zs.length - 1 := by omega
    subst e'
    have := c.last
    omega

theorem Carried.sign {zs : List Int} (c : Carried zs) (h : zs ≠ []) : (0 ≤ val zs ↔ 0 ≤ zs.getD (zs.length - 1) 0) := by
  constructor
  · intro hv
    by_cases e : 0 ≤ zs.getD (zs.length - 1) 0
    · exact e
    · have := c.neg h (by omega)
      omega
  · intro hn
    exact (val_bounds zs (c.all hn)).1

/-! ### the top 64 bits -/
theorem pow_digit (i : Nat) : (4294967296 : Int) ^ i = ((2 ^ (32 * i) : Nat) : Int) := by
  induction i with
  | zero => rfl
  | succ i ih =>
    rw [Int.pow_succ, ih, Nat.mul_succ, Nat.pow_add, Int.natCast_mul]
    rfl

theorem or_one (v : Nat) : v ||| 1 = v / 2 * 2 + 1 := by
  have h := nat_join 1 (v / 2 * 2) 1 (by omega) (by decide)
  rw [← h]
  apply Nat.eq_of_testBit_eq
  intro j
  rw [Nat.testBit_or, Nat.testBit_or]
  cases j with
  | zero => simp
  | succ j =>
    rw [Nat.testBit_succ, Nat.testBit_succ, Nat.testBit_succ]
    congr 2
    omega

/-- the word that magnitude makes of three digits -/
theorem three_words (h m l n : Nat) (hn : n ≤ 32) (hm : m < 4294967296) (hl : l < 4294967296) :
    (h * 2 ^ (64 - n) ||| m * 2 ^ (32 - n)) ||| l / 2 ^ n = (l + 4294967296 * m + 18446744073709551616 * h) / 2 ^ n := by
  have hp := Nat.two_pow_pos n
  have p1 : 2 ^ (64 - n) * 2 ^ n = 18446744073709551616 := by rw [← Nat.pow_add, show 64 - n + n = 64 by omega]
  have p2 : 2 ^ (32 - n) * 2 ^ n = 4294967296 := by rw [← Nat.pow_add, show 32 - n + n = 32 by omega]
  have p3 : 2 ^ (64 - n) = 2 ^ (32 - n) * 4294967296 := by rw [show 64 - n = 32 - n + 32 by omega, Nat.pow_add]
  have a1 : m * 2 ^ (32 - n) < 2 ^ (64 - n) := by
    rw [p3, Nat.mul_comm]
    exact Nat.mul_lt_mul_of_pos_left hm (Nat.two_pow_pos _)
  have a2 : l / 2 ^ n < 2 ^ (32 - n) := by
    rw [Nat.div_lt_iff_lt_mul hp, p2]
    exact hl
  have j1 := nat_join (64 - n) (h * 2 ^ (64 - n)) (m * 2 ^ (32 - n)) (Nat.mul_mod_left _ _) a1
  have j2 := nat_join (32 - n) (h * 2 ^ (64 - n) + m * 2 ^ (32 - n)) (l / 2 ^ n) (by
    rw [p3, ← Nat.mul_assoc, Nat.mul_right_comm, ← Nat.add_mul]
    exact Nat.mul_mod_left _ _) a2
  rw [j1, j2]
  have e : l + 4294967296 * m + 18446744073709551616 * h = l + 2 ^ n * (h * 2 ^ (64 - n) + m * 2 ^ (32 - n)) := by
    rw [Nat.mul_add, ← p1, ← p2]
    have b1 : 2 ^ (32 - n) * 2 ^ n * m = 2 ^ n * (m * 2 ^ (32 - n)) := by rw [Nat.mul_comm (2 ^ (32 - n)), Nat.mul_assoc, Nat.mul_comm (2 ^ (32 - n))]
    have b2 : 2 ^ (64 - n) * 2 ^ n * h = 2 ^ n * (h * 2 ^ (64 - n)) := by rw [Nat.mul_comm (2 ^ (64 - n)), Nat.mul_assoc, Nat.mul_comm (2 ^ (64 - n))]
    rw [b1, b2]
    omega
  rw [e, Nat.add_mul_div_left _ _ hp]
  omega

theorem val_trim (zs : List Int) (k : Nat) (h : ∀ j, k ≤ j → j < zs.length → zs.getD j 0 = 0) : val zs = val (zs.take k) := by
  have e : zs = zs.take k ++ zs.drop k := (List.take_append_drop k zs).symm
  have hz : val (zs.drop k) = 0 := by
    refine val_zero _ (fun i hi => ?_)
    rw [List.length_drop] at hi
    have := h (k + i) (by omega) (by omega)
    rw [List.getD_eq_getElem?_getD] at this ⊢
    rw [List.getElem?_drop]
    exact this
  have := val_append (zs.take k) (zs.drop k)
  rw [← e, hz] at this
  omega

theorem top_digits (zs : List Int) (hb : ∀ i, i < zs.length → 0 ≤ zs.getD i 0 ∧ zs.getD i 0 < 4294967296) (i : Nat) (hi : i < zs.length) (hz : ∀ j, i < j → j < zs.length → zs.getD j 0 = 0)
    (H M L n V : Nat) (hH : zs.getD i 0 = (H : Int)) (hM : ((0 : Int) :: 0 :: zs).getD (i + 1) 0 = (M : Int)) (hL : ((0 : Int) :: 0 :: zs).getD i 0 = (L : Int)) (hH0 : H ≠ 0) (hn : n = H.log2 + 1) (hV : val zs = (V : Int)) (b : Bool) (hbb : b = true ↔ (L % 2 ^ n ≠ 0 ∨ ∃ k, k + 3 ≤ i ∧ zs.getD k 0 ≠ 0)) :
    V ≠ 0 ∧ V.log2 = 32 * i + n - 1 ∧ top V = stk ((L + 4294967296 * M + 18446744073709551616 * H) / 2 ^ n) b ∧ H < 4294967296 ∧ M < 4294967296 ∧ L < 4294967296 ∧ 1 ≤ n ∧ n ≤ 32 := by
  have hb' : ∀ j, j < ((0 : Int) :: 0 :: zs).length → 0 ≤ ((0 : Int) :: 0 :: zs).getD j 0 ∧ ((0 : Int) :: 0 :: zs).getD j 0 < 4294967296 := by
    intro j hj
    match j with
    | 0 => simp
    | 1 => simp
    | j + 2 => simpa using hb j (by simpa using hj)
  have bH := hb i hi
  have bM := hb' (i + 1) (by simp; omega)
  have bL := hb' i (by simp; omega)
  rw [hH] at bH
  rw [hM] at bM
  rw [hL] at bL
  have hHlt : H < 2 ^ n := by rw [hn]; exact Nat.lt_log2_self
  have hHge : 2 ^ (n - 1) ≤ H := by rw [hn]; exact Nat.log2_self_le hH0
  have hn1 : 1 ≤ n := by omega
  have hn32 : n ≤ 32 := by
    have h32 : H.log2 < 32 := (Nat.log2_lt hH0).2 (by omega)
    omega
  -- the whole in base 2 ^ 32
  have hW : 18446744073709551616 * val zs = val (((0 : Int) :: 0 :: zs).take i) + 4294967296 ^ i * (L + 4294967296 * M + 18446744073709551616 * H) := by
    have e0 : val ((0 : Int) :: 0 :: zs) = 18446744073709551616 * val zs := by
      simp only [val]
      omega
    rw [← e0, val_trim ((0 : Int) :: 0 :: zs) (i + 3) (by
      intro j h1 h2
      match j with
      | 0 => rfl
      | 1 => rfl
      | j + 2 => simpa using hz j (by omega) (by simpa using h2))]
    rw [val_take_succ _ (i + 2) (by simp; omega), val_take_succ _ (i + 1) (by simp; omega), val_take_succ _ i (by simp; omega), hL, hM]
    have e1 : ((0 : Int) :: 0 :: zs).getD (i + 2) 0 = (H : Int) := by simpa using hH
    have m1 : (4294967296 : Int) ^ (i + 1) = 4294967296 ^ i * 4294967296 := Int.pow_succ _ _
    have m2 : (4294967296 : Int) ^ (i + 2) = 4294967296 ^ i * 18446744073709551616 := by rw [Int.pow_add]; rfl
    rw [e1, m2, m1, Int.mul_assoc, Int.mul_assoc, Int.mul_add, Int.mul_add]
    omega
  have hlen : (((0 : Int) :: 0 :: zs).take i).length = i := by
    rw [List.length_take]
    simp
    omega
  have hrb := val_bounds (((0 : Int) :: 0 :: zs).take i) (fun j hj => by rw [hlen] at hj; rw [take_getD _ _ _ hj]; exact hb' j (by simp; omega))
  rw [hlen] at hrb
  obtain ⟨r, hr⟩ := Int.eq_ofNat_of_zero_le hrb.1
  have hr0 : r ≠ 0 ↔ ∃ k, k + 3 ≤ i ∧ zs.getD k 0 ≠ 0 := by
    constructor
    · intro h
      apply Classical.byContradiction
      intro hno
      apply h
      have hall : ∀ j, j < (((0 : Int) :: 0 :: zs).take i).length → (((0 : Int) :: 0 :: zs).take i).getD j 0 = 0 := by
        intro j hj
        rw [hlen] at hj
        rw [take_getD _ _ _ hj]
        match j with
        | 0 => rfl
        | 1 => rfl
        | j + 2 =>
          apply Classical.byContradiction
          intro hne
          exact hno ⟨j, by omega, by simpa using hne⟩
      have := val_zero _ hall
      rw [hr] at this
      omega
    · rintro ⟨k, hk, hne⟩ h0
      apply hne
      have := val_zero' (((0 : Int) :: 0 :: zs).take i) (fun j hj => by rw [hlen] at hj; rw [take_getD _ _ _ hj]; exact hb' j (by simp; omega)) (by rw [hr, h0]; rfl) (k + 2) (by rw [hlen]; omega)
      rw [take_getD _ _ _ (by omega)] at this
      simpa using this
  rw [hr, hV, pow_digit] at hW
  rw [hr, pow_digit] at hrb
  have hrP : r < 2 ^ (32 * i) := by have := hrb.2; omega
  obtain ⟨S, hS⟩ : ∃ S, S = L + 4294967296 * M + 18446744073709551616 * H := ⟨_, rfl⟩
  have hS' : (L : Int) + 4294967296 * M + 18446744073709551616 * H = (S : Int) := by omega
  rw [hS', ← Int.natCast_mul] at hW
  have hWn : V * 2 ^ 64 = r + 2 ^ (32 * i) * S := by
    generalize 2 ^ (32 * i) * S = Q at *
    omega
  clear hW hrb hr hS'
  rw [← hS]
  have hPp := Nat.two_pow_pos (32 * i)
  have hnp := Nat.two_pow_pos n
  have q1 : 2 ^ (n - 1) * 2 = 2 ^ n := by rw [← Nat.pow_succ]; congr 1; omega
  have s1 : 2 ^ (n - 1) * 18446744073709551616 ≤ S := by
    have := Nat.mul_le_mul_right 18446744073709551616 hHge
    omega
  have s2 : S < 2 ^ n * 18446744073709551616 := by
    have := Nat.mul_le_mul_right 18446744073709551616 (Nat.succ_le_of_lt hHlt)
    omega
  have hV0 : V ≠ 0 := by
    intro h0
    rw [h0, Nat.zero_mul] at hWn
    have : 0 < 2 ^ (32 * i) * S := Nat.mul_pos hPp (by omega)
    omega
  have hlogW : (V * 2 ^ 64).log2 = 32 * i + (n - 1) + 64 := by
    apply log2_of
    · rw [hWn, Nat.add_assoc, Nat.pow_add, Nat.pow_add]
      have := Nat.mul_le_mul_left (2 ^ (32 * i)) s1
      have e : (2 : Nat) ^ 64 = 18446744073709551616 := rfl
      rw [e]
      omega
    · have e : 2 ^ (32 * i + (n - 1) + 64 + 1) = 2 ^ (32 * i) * (2 ^ n * 18446744073709551616) := by
        rw [show (18446744073709551616 : Nat) = 2 ^ 64 from rfl, ← Nat.pow_add, ← Nat.pow_add]
        congr 1
        omega
      rw [e, hWn]
      have := Nat.mul_le_mul_left (2 ^ (32 * i)) (Nat.succ_le_of_lt s2)
      rw [Nat.mul_succ] at this
      omega
  have hlog : V.log2 = 32 * i + n - 1 := by
    rw [log2_shift V 64 hV0] at hlogW
    omega
  refine ⟨hV0, hlog, ?_, by omega, by omega, by omega, hn1, hn32⟩
  unfold top
  have e1 : V.log2 + 1 = 32 * i + n := by omega
  rw [e1, hWn]
  have d1 : (r + 2 ^ (32 * i) * S) / 2 ^ (32 * i + n) = S / 2 ^ n := by
    rw [Nat.pow_add, ← Nat.div_div_eq_div_mul, Nat.add_mul_div_left _ _ hPp, Nat.div_eq_of_lt hrP, Nat.zero_add]
  have d2 : (r + 2 ^ (32 * i) * S) % 2 ^ (32 * i + n) = r + 2 ^ (32 * i) * (S % 2 ^ n) := by
    rw [Nat.pow_add, Nat.mod_mul, Nat.add_mul_div_left _ _ hPp, Nat.div_eq_of_lt hrP, Nat.zero_add, Nat.add_mul_mod_self_left, Nat.mod_eq_of_lt hrP]
  have d3 : S % 2 ^ n = L % 2 ^ n := by
    have p2 : 2 ^ n * 2 ^ (32 - n) = 4294967296 := by rw [← Nat.pow_add, show n + (32 - n) = 32 by omega]
    have e : S = L + 2 ^ n * (2 ^ (32 - n) * (M + 4294967296 * H)) := by
      rw [hS, ← Nat.mul_assoc, p2]
      omega
    rw [e, Nat.add_mul_mod_self_left]
  rw [d1, d2, d3]
  congr 1
  have : (r + 2 ^ (32 * i) * (L % 2 ^ n) ≠ 0) ↔ (L % 2 ^ n ≠ 0 ∨ ∃ k, k + 3 ≤ i ∧ zs.getD k 0 ≠ 0) := by
    rw [← hr0]
    constructor
    · intro h
      by_cases c : L % 2 ^ n = 0
      · rw [c, Nat.mul_zero] at h
        exact Or.inr (by omega)
      · exact Or.inl c
    · rintro (h | h)
      · have : 0 < 2 ^ (32 * i) * (L % 2 ^ n) := Nat.mul_pos hPp (by omega)
        omega
      · omega
  rw [← hbb] at this
  cases b
  · exact decide_eq_false (fun h => absurd (this.1 h) (by simp))
  · exact decide_eq_true (this.2 rfl)

end Fl
end Go.Proofs.Qxb6615471aFmt
