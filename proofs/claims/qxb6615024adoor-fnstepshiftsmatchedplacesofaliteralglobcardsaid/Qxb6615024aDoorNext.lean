/-
  PLAIN LAWS on the words of 'next' in the course of a step.
-/
import Derived.Test.Qxb6615024aDoorBits
namespace Go.Proofs.Qxb6615024aDoor.Gl
set_option linter.unusedVariables false

/-- the places that follow a hit, up to word k, and the carry into it -/
def NX (H : Nat → Prop) (k : Nat) (zk : List Int) : Prop := ∀ q, bo zk q = true ↔ (1 ≤ q ∧ H (q - 1) ∧ (q / 64 < k ∨ q = 64 * k))

theorem bo_rep (n q : Nat) : bo (List.replicate n 0) q = false := by
  unfold bo
  have : (List.replicate n (0 : Int)).getD (q / 64) 0 = 0 := by
    rw [List.getD_eq_getElem?_getD]
    cases e : (List.replicate n (0 : Int))[q / 64]? with
    | none => rfl
    | some v => exact List.eq_of_mem_replicate (List.mem_of_getElem? e)
  rw [this]
  simp

theorem nx_start (H : Nat → Prop) (F n : Nat) (hH : ∀ q, H q → F ≤ q / 64) : NX H F (List.replicate n 0) := by
  intro q
  rw [bo_rep]
  constructor
  · intro h; cases h
  · rintro ⟨h1, h2, h3⟩
    have := hH _ h2
    omega

/-- word k, or-ed with m shifted up by one -/
theorem shift_bit (x m j : Nat) (hj : j < 64) : (x ||| m * 2 % 18446744073709551616).testBit j = (x.testBit j || (decide (1 ≤ j) && m.testBit (j - 1))) := by
  rw [Nat.testBit_or, show (18446744073709551616 : Nat) = 2 ^ 64 from rfl, Nat.testBit_mod_two_pow, show m * 2 = m <<< 1 from by rw [Nat.shiftLeft_eq], Nat.testBit_shiftLeft]
  simp [hj]

theorem bo_set_word (zs : List Int) (k q z : Nat) (hk : k < zs.length) : bo (zs.set k (z : Int)) q = if q / 64 = k then z.testBit (q % 64) else bo zs q := by
  unfold bo
  by_cases e : k = q / 64
  · subst e
    rw [getD_set_eq _ _ _ hk, if_pos rfl]
    rfl
  · rw [getD_set_ne _ _ _ _ e, if_neg (fun c => e c.symm)]

/-- one round of the walk over the words, word k lying within now's -/
theorem nx_round (H : Nat → Prop) (k n x m : Nat) (zk zc zm : List Int) (hlen : zk.length = n) (hk : k < n) (hx : zk.getD k 0 = (x : Int)) (hm : zm.getD k 0 = (m : Int))
    (hnx : NX H k zk) (hzm : ∀ q, q / 64 = k → (bo zm q = true ↔ H q))
    (hzc : (m.testBit 63 = true ∧ zc = sb zk (64 * (k + 1)) ∧ k + 1 < n) ∨ (m.testBit 63 = false ∧ zc = zk)) :
    NX H (k + 1) (zc.set k (((x ||| m * 2 % 18446744073709551616 : Nat)) : Int)) := by
  have hx' : ∀ j, j < 64 → x.testBit j = bo zk (64 * k + j) := by
    intro j hj
    unfold bo
    rw [show (64 * k + j) / 64 = k by omega, show (64 * k + j) % 64 = j by omega, hx]
    rfl
  have hm' : ∀ j, j < 64 → m.testBit j = bo zm (64 * k + j) := by
    intro j hj
    unfold bo
    rw [show (64 * k + j) / 64 = k by omega, show (64 * k + j) % 64 = j by omega, hm]
    rfl
  have h63 : m.testBit 63 = true ↔ H (64 * k + 63) := by rw [hm' 63 (by omega)]; exact hzm _ (by omega)
  have hlc : zc.length = n := by
    rcases hzc with ⟨_, e, _⟩ | ⟨_, e⟩
    · rw [e, len_sb]; exact hlen
    · rw [e]; exact hlen
  intro q
  rw [bo_set_word _ _ _ _ (by omega)]
  by_cases e : q / 64 = k
  · rw [if_pos e, shift_bit _ _ _ (by omega), hx' _ (by omega), show 64 * k + q % 64 = q by omega]
    by_cases j0 : 1 ≤ q % 64
    · rw [decide_eq_true j0, hm' _ (by omega), show 64 * k + (q % 64 - 1) = q - 1 by omega]
      simp only [Bool.or_eq_true, Bool.and_eq_true, true_and]
      rw [hnx q, hzm (q - 1) (by omega)]
      constructor
      · rintro (⟨h1, h2, h3⟩ | h)
        · exact ⟨h1, h2, by omega⟩
        · exact ⟨by omega, h, by omega⟩
      · rintro ⟨h1, h2, h3⟩
        exact Or.inr h2
    · rw [decide_eq_false j0]
      simp only [Bool.false_and, Bool.or_false]
      rw [hnx q]
      constructor
      · rintro ⟨h1, h2, h3⟩
        exact ⟨h1, h2, by omega⟩
      · rintro ⟨h1, h2, h3⟩
        exact ⟨h1, h2, by omega⟩
  · rw [if_neg e]
    rcases hzc with ⟨c1, rfl, c2⟩ | ⟨c1, rfl⟩
    · rw [bo_sb _ _ _ (by omega)]
      simp only [Bool.or_eq_true, decide_eq_true_eq]
      rw [hnx q]
      constructor
      · rintro (⟨h1, h2, h3⟩ | h)
        · exact ⟨h1, h2, by omega⟩
        · subst h
          exact ⟨by omega, by rw [show 64 * (k + 1) - 1 = 64 * k + 63 by omega]; exact h63.1 c1, by omega⟩
      · rintro ⟨h1, h2, h3⟩
        by_cases c : q = 64 * (k + 1)
        · exact Or.inr c
        · exact Or.inl ⟨h1, h2, by omega⟩
    · rw [hnx q]
      constructor
      · rintro ⟨h1, h2, h3⟩
        exact ⟨h1, h2, by omega⟩
      · rintro ⟨h1, h2, h3⟩
        by_cases c : q = 64 * (k + 1)
        · exfalso
          subst c
          rw [show 64 * (k + 1) - 1 = 64 * k + 63 by omega] at h2
          rw [h63.2 h2] at c1
          cases c1
        · exact ⟨h1, h2, by omega⟩

/-- the word behind now's last -/
theorem nx_last (H : Nat → Prop) (k : Nat) (zk : List Int) (hnx : NX H k zk) (hH : ∀ q, H q → q / 64 < k) : NX H (k + 1) zk := by
  intro q
  rw [hnx q]
  constructor
  · rintro ⟨h1, h2, h3⟩
    exact ⟨h1, h2, by omega⟩
  · rintro ⟨h1, h2, h3⟩
    have := hH _ h2
    exact ⟨h1, h2, by omega⟩

/-- at the walk's end all is there -/
theorem nx_end (H : Nat → Prop) (k : Nat) (l L : Int) (zk : List Int) (hnx : NX H k zk) (hl : ∀ q, H q → ((q / 64 : Nat) : Int) ≤ l) (hk : L < k) (hL : l ≤ L) (hc : ∀ q, H q → ((q / 64 : Nat) : Int) = l → q % 64 = 63 → L = l + 1) :
    ∀ q, bo zk q = true ↔ (1 ≤ q ∧ H (q - 1)) := by
  intro q
  rw [hnx q]
  constructor
  · rintro ⟨h1, h2, _⟩; exact ⟨h1, h2⟩
  · rintro ⟨h1, h2⟩
    refine ⟨h1, h2, ?_⟩
    have a := hl _ h2
    by_cases c : q / 64 < k
    · exact Or.inl c
    · exfalso
      have b := hc _ h2 (by omega) (by omega)
      omega

theorem top_bit (m : Nat) (h : m < 18446744073709551616) : m.testBit 63 = decide (9223372036854775808 ≤ m) := by
  rw [Nat.testBit_eq_decide_div_mod_eq, show (2 : Nat) ^ 63 = 9223372036854775808 from rfl]
  by_cases c : 9223372036854775808 ≤ m
  · have : m / 9223372036854775808 % 2 = 1 := by omega
    rw [decide_eq_true this, decide_eq_true c]
  · have : ¬ m / 9223372036854775808 % 2 = 1 := by omega
    rw [decide_eq_false this, decide_eq_false c]

end Go.Proofs.Qxb6615024aDoor.Gl
