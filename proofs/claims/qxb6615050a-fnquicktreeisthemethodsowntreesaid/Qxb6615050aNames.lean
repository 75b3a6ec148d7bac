/-
  THE WALKS of knownMethod and zzNine: which of the nine names is it?
-/
import Derived.Test.Qxb6615050aChecked
import Derived.WalkKit
import Derived.WalkSpells
namespace Go.Proofs.Qxb6615050a
open Go.RowKit
set_option linter.unusedVariables false
namespace Qt

def nm : Nat → ByteArray
  | 0 => ⟨#[71, 69, 84]⟩
  | 1 => ⟨#[72, 69, 65, 68]⟩
  | 2 => ⟨#[80, 79, 83, 84]⟩
  | 3 => ⟨#[80, 85, 84]⟩
  | 4 => ⟨#[80, 65, 84, 67, 72]⟩
  | 5 => ⟨#[68, 69, 76, 69, 84, 69]⟩
  | 6 => ⟨#[67, 79, 78, 78, 69, 67, 84]⟩
  | 7 => ⟨#[79, 80, 84, 73, 79, 78, 83]⟩
  | _ => ⟨#[84, 82, 65, 67, 69]⟩

/-- the number of a method, 9 for any other -/
def mi (s : ByteArray) : Nat :=
  if s = nm 0 then 0 else if s = nm 1 then 1 else if s = nm 2 then 2 else if s = nm 3 then 3 else if s = nm 4 then 4
  else if s = nm 5 then 5 else if s = nm 6 then 6 else if s = nm 7 then 7 else if s = nm 8 then 8 else 9

theorem mi_le (s : ByteArray) : mi s ≤ 9 := by
  unfold mi
  repeat' split
  all_goals omega

theorem mi_nm : ∀ i, i < 9 → mi (nm i) = i := by decide +kernel

theorem nm_mi (s : ByteArray) (h : mi s < 9) : s = nm (mi s) := by
  unfold mi at h ⊢
  by_cases c0 : s = nm 0
  · rw [if_pos c0]; exact c0
  rw [if_neg c0] at h ⊢
  by_cases c1 : s = nm 1
  · rw [if_pos c1]; exact c1
  rw [if_neg c1] at h ⊢
  by_cases c2 : s = nm 2
  · rw [if_pos c2]; exact c2
  rw [if_neg c2] at h ⊢
  by_cases c3 : s = nm 3
  · rw [if_pos c3]; exact c3
  rw [if_neg c3] at h ⊢
  by_cases c4 : s = nm 4
  · rw [if_pos c4]; exact c4
  rw [if_neg c4] at h ⊢
  by_cases c5 : s = nm 5
  · rw [if_pos c5]; exact c5
  rw [if_neg c5] at h ⊢
  by_cases c6 : s = nm 6
  · rw [if_pos c6]; exact c6
  rw [if_neg c6] at h ⊢
  by_cases c7 : s = nm 7
  · rw [if_pos c7]; exact c7
  rw [if_neg c7] at h ⊢
  by_cases c8 : s = nm 8
  · rw [if_pos c8]; exact c8
  rw [if_neg c8] at h
  omega

theorem mi_inj (s t : ByteArray) (h : mi s < 9) (e : mi s = mi t) : s = t := by
  rw [nm_mi s h, nm_mi t (by omega), e]

theorem ne_nm (s : ByteArray) (h : ¬ mi s < 9) (i : Nat) (hi : i < 9) : s ≠ nm i := by
  intro e
  rw [e, mi_nm i hi] at h
  exact h hi

theorem of_toList (s : ByteArray) (l : List UInt8) (h : s.toList = l) : s = ⟨l.toArray⟩ := by
  rw [ByteArray.toList_eq] at h
  subst h
  cases s
  simp

/-- none of the nine: as the walk asks -/
structure Other (s : ByteArray) : Prop where
  n0 : (s.toList == [71, 69, 84]) = false
  n1 : (s.toList == [72, 69, 65, 68]) = false
  n2 : (s.toList == [80, 79, 83, 84]) = false
  n3 : (s.toList == [80, 85, 84]) = false
  n4 : (s.toList == [80, 65, 84, 67, 72]) = false
  n5 : (s.toList == [68, 69, 76, 69, 84, 69]) = false
  n6 : (s.toList == [67, 79, 78, 78, 69, 67, 84]) = false
  n7 : (s.toList == [79, 80, 84, 73, 79, 78, 83]) = false
  n8 : (s.toList == [84, 82, 65, 67, 69]) = false

theorem other_of (s : ByteArray) (h : ¬ mi s < 9) : Other s := by
  have key : ∀ i, i < 9 → ∀ l : List UInt8, nm i = ⟨l.toArray⟩ → (s.toList == l) = false := by
    intro i hi l e
    rw [beq_eq_false_iff_ne]
    intro he
    exact ne_nm s h i hi ((of_toList s l he).trans e.symm)
  exact ⟨key 0 (by omega) _ rfl, key 1 (by omega) _ rfl, key 2 (by omega) _ rfl, key 3 (by omega) _ rfl, key 4 (by omega) _ rfl, key 5 (by omega) _ rfl, key 6 (by omega) _ rfl, key 7 (by omega) _ rfl, key 8 (by omega) _ rfl⟩

theorem known_0 (w : World) : Calls Try.prog 30 #[.string (nm 0)] w fun e w' => e = .returned (.int .i64 0) ∧ w' = w := by
  simp only [nm]
  go_enter Try.func30, Try.ntmps30
  go_wp2
  go_ret
  exact ⟨rfl, rfl⟩

theorem known_1 (w : World) : Calls Try.prog 30 #[.string (nm 1)] w fun e w' => e = .returned (.int .i64 1) ∧ w' = w := by
  simp only [nm]
  go_enter Try.func30, Try.ntmps30
  go_wp2
  go_ret
  exact ⟨rfl, rfl⟩

theorem known_2 (w : World) : Calls Try.prog 30 #[.string (nm 2)] w fun e w' => e = .returned (.int .i64 2) ∧ w' = w := by
  simp only [nm]
  go_enter Try.func30, Try.ntmps30
  go_wp2
  go_ret
  exact ⟨rfl, rfl⟩

theorem known_3 (w : World) : Calls Try.prog 30 #[.string (nm 3)] w fun e w' => e = .returned (.int .i64 3) ∧ w' = w := by
  simp only [nm]
  go_enter Try.func30, Try.ntmps30
  go_wp2
  go_ret
  exact ⟨rfl, rfl⟩

theorem known_4 (w : World) : Calls Try.prog 30 #[.string (nm 4)] w fun e w' => e = .returned (.int .i64 4) ∧ w' = w := by
  simp only [nm]
  go_enter Try.func30, Try.ntmps30
  go_wp2
  go_ret
  exact ⟨rfl, rfl⟩

theorem known_5 (w : World) : Calls Try.prog 30 #[.string (nm 5)] w fun e w' => e = .returned (.int .i64 5) ∧ w' = w := by
  simp only [nm]
  go_enter Try.func30, Try.ntmps30
  go_wp2
  go_ret
  exact ⟨rfl, rfl⟩

theorem known_6 (w : World) : Calls Try.prog 30 #[.string (nm 6)] w fun e w' => e = .returned (.int .i64 6) ∧ w' = w := by
  simp only [nm]
  go_enter Try.func30, Try.ntmps30
  go_wp2
  go_ret
  exact ⟨rfl, rfl⟩

theorem known_7 (w : World) : Calls Try.prog 30 #[.string (nm 7)] w fun e w' => e = .returned (.int .i64 7) ∧ w' = w := by
  simp only [nm]
  go_enter Try.func30, Try.ntmps30
  go_wp2
  go_ret
  exact ⟨rfl, rfl⟩

theorem known_8 (w : World) : Calls Try.prog 30 #[.string (nm 8)] w fun e w' => e = .returned (.int .i64 8) ∧ w' = w := by
  simp only [nm]
  go_enter Try.func30, Try.ntmps30
  go_wp2
  go_ret
  exact ⟨rfl, rfl⟩

theorem known_other (s : ByteArray) (w : World) (h : Other s) : Calls Try.prog 30 #[.string s] w fun e w' => e = .returned (.int .i64 9) ∧ w' = w := by
  obtain ⟨h0, h1, h2, h3, h4, h5, h6, h7, h8⟩ := h
  go_enter Try.func30, Try.ntmps30
  go_wp2
  go_ret
  exact ⟨rfl, rfl⟩

theorem nine_0 (w : World) : Calls Try.prog 25 #[.string (nm 0)] w fun e w' => e = .returned (.bool true) ∧ w' = w := by
  simp only [nm]
  go_enter Try.func25, Try.ntmps25
  go_wp2
  go_ret
  exact ⟨rfl, rfl⟩

theorem nine_1 (w : World) : Calls Try.prog 25 #[.string (nm 1)] w fun e w' => e = .returned (.bool true) ∧ w' = w := by
  simp only [nm]
  go_enter Try.func25, Try.ntmps25
  go_wp2
  go_ret
  exact ⟨rfl, rfl⟩

theorem nine_2 (w : World) : Calls Try.prog 25 #[.string (nm 2)] w fun e w' => e = .returned (.bool true) ∧ w' = w := by
  simp only [nm]
  go_enter Try.func25, Try.ntmps25
  go_wp2
  go_ret
  exact ⟨rfl, rfl⟩

theorem nine_3 (w : World) : Calls Try.prog 25 #[.string (nm 3)] w fun e w' => e = .returned (.bool true) ∧ w' = w := by
  simp only [nm]
  go_enter Try.func25, Try.ntmps25
  go_wp2
  go_ret
  exact ⟨rfl, rfl⟩

theorem nine_4 (w : World) : Calls Try.prog 25 #[.string (nm 4)] w fun e w' => e = .returned (.bool true) ∧ w' = w := by
  simp only [nm]
  go_enter Try.func25, Try.ntmps25
  go_wp2
  go_ret
  exact ⟨rfl, rfl⟩

theorem nine_5 (w : World) : Calls Try.prog 25 #[.string (nm 5)] w fun e w' => e = .returned (.bool true) ∧ w' = w := by
  simp only [nm]
  go_enter Try.func25, Try.ntmps25
  go_wp2
  go_ret
  exact ⟨rfl, rfl⟩

theorem nine_6 (w : World) : Calls Try.prog 25 #[.string (nm 6)] w fun e w' => e = .returned (.bool true) ∧ w' = w := by
  simp only [nm]
  go_enter Try.func25, Try.ntmps25
  go_wp2
  go_ret
  exact ⟨rfl, rfl⟩

theorem nine_7 (w : World) : Calls Try.prog 25 #[.string (nm 7)] w fun e w' => e = .returned (.bool true) ∧ w' = w := by
  simp only [nm]
  go_enter Try.func25, Try.ntmps25
  go_wp2
  go_ret
  exact ⟨rfl, rfl⟩

theorem nine_8 (w : World) : Calls Try.prog 25 #[.string (nm 8)] w fun e w' => e = .returned (.bool true) ∧ w' = w := by
  simp only [nm]
  go_enter Try.func25, Try.ntmps25
  go_wp2
  go_ret
  exact ⟨rfl, rfl⟩

theorem nine_other (s : ByteArray) (w : World) (h : Other s) : Calls Try.prog 25 #[.string s] w fun e w' => e = .returned (.bool false) ∧ w' = w := by
  obtain ⟨h0, h1, h2, h3, h4, h5, h6, h7, h8⟩ := h
  go_enter Try.func25, Try.ntmps25
  go_wp2
  go_ret
  exact ⟨rfl, rfl⟩

theorem known_any (s : ByteArray) (w : World) : Calls Try.prog 30 #[.string s] w fun e w' => e = .returned (.int .i64 (mi s : Nat)) ∧ w' = w := by
  have hle := mi_le s
  by_cases h : mi s < 9
  · have e := nm_mi s h
    generalize mi s = k at *
    subst e
    match k, h with
    | 0, _ => exact known_0 w
    | 1, _ => exact known_1 w
    | 2, _ => exact known_2 w
    | 3, _ => exact known_3 w
    | 4, _ => exact known_4 w
    | 5, _ => exact known_5 w
    | 6, _ => exact known_6 w
    | 7, _ => exact known_7 w
    | 8, _ => exact known_8 w
  · have e : mi s = 9 := by omega
    rw [e]
    exact known_other s w (other_of s h)

theorem nine_any (s : ByteArray) (w : World) : Calls Try.prog 25 #[.string s] w fun e w' => e = .returned (.bool (decide (mi s < 9))) ∧ w' = w := by
  by_cases h : mi s < 9
  · rw [decide_eq_true h]
    have e := nm_mi s h
    generalize mi s = k at *
    subst e
    match k, h with
    | 0, _ => exact nine_0 w
    | 1, _ => exact nine_1 w
    | 2, _ => exact nine_2 w
    | 3, _ => exact nine_3 w
    | 4, _ => exact nine_4 w
    | 5, _ => exact nine_5 w
    | 6, _ => exact nine_6 w
    | 7, _ => exact nine_7 w
    | 8, _ => exact nine_8 w
  · rw [decide_eq_false h]
    exact nine_other s w (other_of s h)

end Qt
end Go.Proofs.Qxb6615050a
