/-
  THE PLAIN LAW of the step: the wanted words, first, last and work are those that the step leaves.
-/
import Derived.Test.Qxb6615024aDoorStpA
import Derived.Test.Qxb6615024aDoorPlaces
namespace Go.Proofs.Qxb6615024aDoor
open Go.RowKit
set_option linter.unusedVariables false
namespace Gl

/-- the place q of now matches c -/
def Hp (zs zn : List Int) (c : Int) (q : Nat) : Prop := q < zs.length ∧ zs.getD q 0 = c ∧ bo zn q = true

theorem hit_plain (X : Cx) (zs : List Int) (hpl : ∀ i, X.pl i = pos zs (X.cs.getD i 0) zs.length) (hh : ∀ x, Has X.cs x ↔ Has zs x) (q : Nat) : X.Hit q ↔ Hp zs X.zn X.c q := by
  constructor
  · rintro ⟨hb, i, hi, he, hq⟩
    rw [hpl, mem_pos, he] at hq
    exact ⟨hq.1, hq.2, hb⟩
  · rintro ⟨hq, he, hb⟩
    obtain ⟨i, hi, hx⟩ := (hh X.c).2 ⟨q, hq, he⟩
    refine ⟨hb, i, hi, hx, ?_⟩
    rw [hpl, mem_pos, hx]
    exact ⟨hq, he⟩

/-- the wanted words when the first p places are read -/
def WM (zs zn zm : List Int) (c : Int) (F : Nat) (l : Int) (p : Nat) (wm : List Int) : Prop :=
  ∀ q, bo wm q = true ↔ ((bo zm q = true ∧ ¬ (F ≤ q / 64 ∧ ((q / 64 : Nat) : Int) ≤ l)) ∨ (q < p ∧ Hp zs zn c q))
def WN (zs zn : List Int) (c : Int) (p : Nat) (wn : List Int) : Prop := ∀ q, bo wn q = true ↔ (1 ≤ q ∧ q - 1 < p ∧ Hp zs zn c (q - 1))

theorem wm_start (zs zn zm wm : List Int) (c : Int) (F k : Nat) (l : Int) (h : ∀ q, bo wm q = (bo zm q && !decide (F ≤ q / 64 ∧ q / 64 < k))) (hk : ∀ q : Nat, (F ≤ q ∧ q < k) ↔ (F ≤ q ∧ (q : Int) ≤ l)) : WM zs zn zm c F l 0 wm := by
  intro q
  rw [h q]
  have := hk (q / 64)
  simp only [this, Bool.and_eq_true, Bool.not_eq_true', decide_eq_false_iff_not, Nat.not_lt_zero, false_and, or_false]

theorem wn_start (zs zn : List Int) (c : Int) (n : Nat) : WN zs zn c 0 (List.replicate n 0) := by
  intro q
  rw [bo_rep]
  simp

theorem wm_yes {zs zn zm wm : List Int} {c : Int} {F p : Nat} {l : Int} (h : WM zs zn zm c F l p wm) (hp : p / 64 < wm.length) (y : Hp zs zn c p) : WM zs zn zm c F l (p + 1) (sb wm p) := by
  intro q
  rw [bo_sb _ _ _ hp, Bool.or_eq_true, h q, decide_eq_true_iff]
  constructor
  · rintro ((a | ⟨a, b⟩) | rfl)
    · exact Or.inl a
    · exact Or.inr ⟨by omega, b⟩
    · exact Or.inr ⟨by omega, y⟩
  · rintro (a | ⟨a, b⟩)
    · exact Or.inl (Or.inl a)
    · by_cases e : q = p
      · exact Or.inr e
      · exact Or.inl (Or.inr ⟨by omega, b⟩)

theorem wm_no {zs zn zm wm : List Int} {c : Int} {F p : Nat} {l : Int} (h : WM zs zn zm c F l p wm) (y : ¬ Hp zs zn c p) : WM zs zn zm c F l (p + 1) wm := by
  intro q
  rw [h q]
  constructor
  · rintro (a | ⟨a, b⟩)
    · exact Or.inl a
    · exact Or.inr ⟨by omega, b⟩
  · rintro (a | ⟨a, b⟩)
    · exact Or.inl a
    · by_cases e : q = p
      · subst e; exact absurd b y
      · exact Or.inr ⟨by omega, b⟩

theorem wn_yes {zs zn wn : List Int} {c : Int} {p : Nat} (h : WN zs zn c p wn) (hp : (p + 1) / 64 < wn.length) (y : Hp zs zn c p) : WN zs zn c (p + 1) (sb wn (p + 1)) := by
  intro q
  rw [bo_sb _ _ _ hp, Bool.or_eq_true, h q, decide_eq_true_iff]
  constructor
  · rintro (⟨a, b, d⟩ | rfl)
    · exact ⟨a, by omega, d⟩
    · exact ⟨by omega, by omega, by simpa using y⟩
  · rintro ⟨a, b, d⟩
    by_cases e : q = p + 1
    · exact Or.inr e
    · exact Or.inl ⟨a, by omega, d⟩

theorem wn_no {zs zn wn : List Int} {c : Int} {p : Nat} (h : WN zs zn c p wn) (y : ¬ Hp zs zn c p) : WN zs zn c (p + 1) wn := by
  intro q
  rw [h q]
  constructor
  · rintro ⟨a, b, d⟩
    exact ⟨a, by omega, d⟩
  · rintro ⟨a, b, d⟩
    by_cases e : q = p + 1
    · subst e; exact absurd d y
    · exact ⟨a, by omega, d⟩

/-- lo and hi when the first k words are read -/
def LH (wn : List Int) (k : Nat) (lo hi : Int) : Prop :=
  (lo = -1 ∧ hi = -1 ∧ ∀ i, i < k → wn.getD i 0 = 0) ∨
  (0 ≤ lo ∧ lo ≤ hi ∧ hi < k ∧ wn.getD lo.toNat 0 ≠ 0 ∧ wn.getD hi.toNat 0 ≠ 0 ∧ (∀ i : Nat, (i : Int) < lo → wn.getD i 0 = 0) ∧ ∀ i : Nat, hi < (i : Int) → i < k → wn.getD i 0 = 0)

theorem lh_start (wn : List Int) : LH wn 0 (-1) (-1) := Or.inl ⟨rfl, rfl, fun i h => absurd h (Nat.not_lt_zero _)⟩
theorem lh_zero {wn : List Int} {k : Nat} {lo hi : Int} (h : LH wn k lo hi) (z : wn.getD k 0 = 0) : LH wn (k + 1) lo hi := by
  rcases h with ⟨a, b, d⟩ | ⟨a, b, d, e, f, g, i⟩
  · refine Or.inl ⟨a, b, fun j hj => ?_⟩
    by_cases ej : j = k
    · rw [ej]; exact z
    · exact d j (by omega)
  · refine Or.inr ⟨a, b, by omega, e, f, g, fun j h1 h2 => ?_⟩
    by_cases ej : j = k
    · rw [ej]; exact z
    · exact i j h1 (by omega)
theorem lh_first {wn : List Int} {k : Nat} {lo hi : Int} (h : LH wn k lo hi) (z : wn.getD k 0 ≠ 0) (hl : lo < 0) : LH wn (k + 1) k k := by
  rcases h with ⟨a, b, d⟩ | ⟨a, b, d, e, f, g, i⟩
  · exact Or.inr ⟨by omega, by omega, by omega, by simpa using z, by simpa using z, fun j hj => d j (by omega), fun j h1 h2 => by omega⟩
  · omega
theorem lh_more {wn : List Int} {k : Nat} {lo hi : Int} (h : LH wn k lo hi) (z : wn.getD k 0 ≠ 0) (hl : ¬ lo < 0) : LH wn (k + 1) lo k := by
  rcases h with ⟨a, b, d⟩ | ⟨a, b, d, e, f, g, i⟩
  · omega
  · exact Or.inr ⟨a, by omega, by omega, e, by simpa using z, g, fun j h1 h2 => by omega⟩

/-- a set word of the next places lies where a hit leads -/
theorem wn_word {zs zn wn : List Int} {c : Int} {p : Nat} (hwf : WF wn) (h : WN zs zn c p wn) (i : Nat) (hz : wn.getD i 0 ≠ 0) : ∃ q, Hp zs zn c q ∧ (q + 1) / 64 = i := by
  have h1 : ¬ ∀ q, q / 64 = i → bo wn q = false := fun a => hz ((word_zero wn hwf i).2 a)
  obtain ⟨q, hq⟩ := Classical.not_forall.1 h1
  obtain ⟨hq1, hq2⟩ := Classical.not_imp.1 hq
  have hq3 : bo wn q = true := by simpa using hq2
  obtain ⟨a, b, d⟩ := (h q).1 hq3
  exact ⟨q - 1, d, by rw [Nat.sub_add_cancel a]; exact hq1⟩

theorem step_plain (X : Cx) (zs zm wm wn : List Int) (w' : World) (r lo hi wf wl : Int) (hhit : ∀ q, X.Hit q ↔ Hp zs X.zn X.c q) (out : StepOut X zm w' r)
    (hm : WM zs X.zn zm X.c X.F X.l zs.length wm) (hml : wm.length = X.n) (hmw : WF wm) (hn : WN zs X.zn X.c zs.length wn) (hnl : wn.length = X.n) (hnw : WF wn)
    (lh : LH wn X.n lo hi) (hX : X.n = zs.length / 64 + 1) (hH : ∀ q, X.Hit q → X.F ≤ q / 64 ∧ ((q / 64 : Nat) : Int) ≤ X.l)
    (hw : (0 ≤ lo ∧ wf = lo ∧ wl = hi) ∨ (lo < 0 ∧ wl = X.l ∧ wf = max (X.l + 1) (X.F : Int))) :
    Row w' .u64 30 X.mm X.n wm ∧ SetAt w' X.xs X.xm X.n wf wl ∧ Row w' .u64 30 X.xm X.n wn ∧ Kept X.w w' X.S ∧ r = wl - X.F + 1 := by
  obtain ⟨zm', zx', L, f', l', hr, rm, lm, wfm, bm, sx, rx, lx, wfx, bx, kk, g1, g2, g3, g4, t1, t2, t3, t4, t5, t6, t7, t8⟩ := out
  have e1 : zm' = wm := by
    refine words_ext _ _ wfm hmw (lm.trans hml.symm) (fun q => ?_)
    rw [Bool.eq_iff_iff, bm q, hm q, hhit q]
    constructor
    · rintro (a | a)
      · exact Or.inl a
      · exact Or.inr ⟨a.1, a⟩
    · rintro (a | a)
      · exact Or.inl a
      · exact Or.inr a.2
  have e2 : zx' = wn := by
    refine words_ext _ _ wfx hnw (lx.trans hnl.symm) (fun q => ?_)
    rw [Bool.eq_iff_iff, bx q, hn q]
    constructor
    · rintro ⟨a, b⟩
      have b' := (hhit _).1 b
      exact ⟨a, b'.1, b'⟩
    · rintro ⟨a, b, d⟩
      exact ⟨a, (hhit _).2 d⟩
  subst e1 e2
  have key : (f' : Int) = wf ∧ l' = wl := by
    rcases lh with ⟨a, b, d⟩ | ⟨a, b, d, e, f, g, i⟩
    · rcases hw with ⟨h0, _, _⟩ | ⟨_, h1, h2⟩
      · omega
      · have hno : ¬ ∃ q, X.Hit q := by
          rintro ⟨q, hq⟩
          have hq' := (hhit q).1 hq
          have hb := (bx (q + 1)).2 ⟨by omega, by simpa using hq⟩
          have hz := d ((q + 1) / 64) (by have := hq'.1; omega)
          have := (word_zero zx' wfx _).1 hz (q + 1) rfl
          rw [this] at hb
          exact absurd hb (by simp)
        have hL : L = X.l := by
          rcases g3 with h | ⟨_, h⟩
          · exact h
          · exact absurd h hno
        have hfL : ¬ (f' : Int) ≤ L := fun h => t7 h (d f' (by omega))
        omega
    · rcases hw with ⟨_, h1, h2⟩ | ⟨h0, _, _⟩
      · obtain ⟨q, hq, hq1⟩ := wn_word hnw hn _ e
        obtain ⟨p, hp, hp1⟩ := wn_word hnw hn _ f
        have a1 := hH q ((hhit q).2 hq)
        have a2 := g4 q ((hhit q).2 hq)
        have a3 := g4 p ((hhit p).2 hp)
        have b1 : (f' : Int) ≤ lo := by
          rcases Int.lt_or_le lo f' with h | h
          · exact absurd (t5 lo.toNat (by omega) (by omega)) e
          · exact h
        have b2 : (f' : Int) = lo := by
          rcases Int.lt_or_le f' lo with h | h
          · exact absurd (g f' h) (t7 (by omega))
          · omega
        have b3 : hi ≤ l' := by
          rcases Int.lt_or_le l' hi with h | h
          · exact absurd (t6 hi.toNat (by omega) (by omega)) f
          · exact h
        have b4 : l' = hi := by
          rcases Int.lt_or_le hi l' with h | h
          · exact absurd (i l'.toNat (by omega) (by omega)) (t8 (by omega))
          · omega
        omega
      · omega
  obtain ⟨k1, k2⟩ := key
  rw [k1, k2] at sx
  exact ⟨rm, sx, rx, kk, by rw [hr, k2]⟩

end Gl
end Go.Proofs.Qxb6615024aDoor
