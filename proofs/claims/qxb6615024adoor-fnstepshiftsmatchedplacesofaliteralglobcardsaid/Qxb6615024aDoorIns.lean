/-
  PLAIN LAWS on putting a number into an ascending list.
-/
import Derived.Test.Qxb6615024aDoorBits
namespace Go.Proofs.Qxb6615024aDoor.Gl
set_option linter.unusedVariables false

def Asc (cs : List Int) : Prop := ∀ i j, i < j → j < cs.length → cs.getD i 0 < cs.getD j 0
def Has (cs : List Int) (x : Int) : Prop := ∃ i, i < cs.length ∧ cs.getD i 0 = x

/-- the list with c at place t -/
def IsIns (cs L : List Int) (t : Nat) (c : Int) : Prop := L.length = cs.length + 1 ∧ ∀ i, i < L.length → L.getD i 0 = if i < t then cs.getD i 0 else if i = t then c else cs.getD (i - 1) 0

theorem ins_asc {cs L : List Int} {t : Nat} {c : Int} (h : IsIns cs L t c) (hs : Asc cs) (ht : t ≤ cs.length) (h1 : ∀ i, i < t → cs.getD i 0 < c) (h2 : t < cs.length → c < cs.getD t 0) : Asc L := by
  obtain ⟨hl, hg⟩ := h
  intro i j hij hj
  rw [hg i (by omega), hg j hj]
  by_cases c1 : i < t
  · rw [if_pos c1]
    by_cases c2 : j < t
    · rw [if_pos c2]; exact hs i j hij (by omega)
    · rw [if_neg c2]
      by_cases c3 : j = t
      · rw [if_pos c3]; exact h1 i c1
      · rw [if_neg c3]; exact hs i (j - 1) (by omega) (by omega)
  · rw [if_neg c1]
    have c2 : ¬ j < t := by omega
    have c3 : ¬ j = t := by omega
    rw [if_neg c2, if_neg c3]
    by_cases c4 : i = t
    · rw [if_pos c4]
      have := h2 (by omega)
      by_cases c5 : j - 1 = t
      · rw [c5]; exact this
      · have := hs t (j - 1) (by omega) (by omega)
        omega
    · rw [if_neg c4]
      exact hs (i - 1) (j - 1) (by omega) (by omega)

theorem ins_has {cs L : List Int} {t : Nat} {c : Int} (h : IsIns cs L t c) (ht : t ≤ cs.length) (x : Int) : Has L x ↔ (x = c ∨ Has cs x) := by
  obtain ⟨hl, hg⟩ := h
  constructor
  · rintro ⟨i, hi, e⟩
    rw [hg i hi] at e
    by_cases c1 : i < t
    · rw [if_pos c1] at e; exact Or.inr ⟨i, by omega, e⟩
    · rw [if_neg c1] at e
      by_cases c2 : i = t
      · rw [if_pos c2] at e; exact Or.inl e.symm
      · rw [if_neg c2] at e; exact Or.inr ⟨i - 1, by omega, e⟩
  · rintro (rfl | ⟨i, hi, e⟩)
    · exact ⟨t, by omega, by rw [hg t (by omega), if_neg (by omega), if_pos rfl]⟩
    · by_cases c1 : i < t
      · exact ⟨i, by omega, by rw [hg i (by omega), if_pos c1]; exact e⟩
      · exact ⟨i + 1, by omega, by rw [hg (i + 1) (by omega), if_neg (by omega), if_neg (by omega), Nat.add_sub_cancel]; exact e⟩

/-- in the course of the shift: what lies behind q has moved up by one -/
def Shifted (cs D : List Int) (q : Nat) : Prop := D.length = cs.length + 1 ∧ ∀ i, i < D.length → D.getD i 0 = if i ≤ q then (cs ++ [0]).getD i 0 else cs.getD (i - 1) 0

theorem sh_start (cs : List Int) : Shifted cs (cs ++ [0]) cs.length := by
  refine ⟨by simp, fun i hi => ?_⟩
  have : i ≤ cs.length := by simp at hi; omega
  rw [if_pos this]

theorem app_getD (cs : List Int) (i : Nat) (h : i < cs.length) : (cs ++ [0]).getD i 0 = cs.getD i 0 := by
  simp [List.getD_eq_getElem?_getD, List.getElem?_append_left h]

theorem sh_step {cs D : List Int} {q : Nat} (h : Shifted cs D q) (h0 : 0 < q) (hq : q ≤ cs.length) : Shifted cs (D.set q (D.getD (q - 1) 0)) (q - 1) := by
  obtain ⟨hl, hg⟩ := h
  refine ⟨by simpa using hl, fun i hi => ?_⟩
  rw [List.length_set] at hi
  by_cases e : q = i
  · subst e
    rw [getD_set_eq _ _ _ hi, if_neg (by omega), hg (q - 1) (by omega), if_pos (by omega), app_getD _ _ (by omega)]
  · rw [getD_set_ne _ _ _ _ e, hg i hi]
    by_cases c : i ≤ q - 1
    · rw [if_pos c, if_pos (by omega)]
    · rw [if_neg c, if_neg (by omega)]

theorem sh_end {cs D : List Int} {t : Nat} {c : Int} (h : Shifted cs D t) (ht : t ≤ cs.length) : IsIns cs (D.set t c) t c := by
  obtain ⟨hl, hg⟩ := h
  refine ⟨by simpa using hl, fun i hi => ?_⟩
  rw [List.length_set] at hi
  by_cases e : t = i
  · subst e
    rw [getD_set_eq _ _ _ hi, if_neg (by omega), if_pos rfl]
  · rw [getD_set_ne _ _ _ _ e, hg i hi]
    by_cases c1 : i < t
    · rw [if_pos c1, if_pos (by omega), app_getD _ _ (by omega)]
    · rw [if_neg c1, if_neg (by omega), if_neg (by omega)]

theorem has_take {zs : List Int} {p : Nat} (hp : p < zs.length) (x : Int) : Has (zs.take (p + 1)) x ↔ (x = zs.getD p 0 ∨ Has (zs.take p) x) := by
  have g : ∀ m i, i < m → (zs.take m).getD i 0 = zs.getD i 0 := fun m i h => by simp [List.getD_eq_getElem?_getD, List.getElem?_take_of_lt h]
  constructor
  · rintro ⟨i, hi, e⟩
    rw [List.length_take] at hi
    rw [g _ _ (by omega)] at e
    by_cases c : i = p
    · subst c; exact Or.inl e.symm
    · exact Or.inr ⟨i, by rw [List.length_take]; omega, by rw [g _ _ (by omega)]; exact e⟩
  · rintro (rfl | ⟨i, hi, e⟩)
    · exact ⟨p, by rw [List.length_take]; omega, g _ _ (by omega)⟩
    · rw [List.length_take] at hi
      rw [g _ _ (by omega)] at e
      exact ⟨i, by rw [List.length_take]; omega, by rw [g _ _ (by omega)]; exact e⟩

end Go.Proofs.Qxb6615024aDoor.Gl
