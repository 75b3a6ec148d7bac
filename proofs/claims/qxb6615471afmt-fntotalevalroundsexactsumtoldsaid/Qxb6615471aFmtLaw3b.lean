/-
  FnTotalEvalRoundsExactSum: THE LAW, whatever the input.
-/
import Derived.Test.Qxb6615471aFmtLaw3
namespace Go.Proofs.Qxb6615471aFmt
open Go.RowKit Go.Extern.Stop Go.Stop Go.Extern
set_option linter.unusedVariables false
namespace Fl

set_option maxRecDepth 100000 in
theorem law3_big (a : Option Addr) (n c : Nat) (low mi ot : Int) (w : World) (hn : (131072 : Int) < n) : Calls Tryf.prog 3 #[.slice a n c, .int .i64 low, .int .i64 mi, .int .i64 ot] w fun e w' => e = .returned (.bool true) ∧ w' = w := by
  have hby := bytes5_any a n c low mi ot w
  go_enter Tryf.func3, Tryf.ntmps3
  go_wp2_with fail
  refine hby.mono ?_
  rintro e w' ⟨⟨t, rfl⟩, hw⟩
  subst w'
  cases t
  · go_wp2
    go_ret
    exact ⟨rfl, rfl⟩
  go_wp2
  go_ret
  exact ⟨rfl, rfl⟩

set_option maxRecDepth 100000 in
theorem law3_no (a : Option Addr) (n c : Nat) (low mi ot : Int) (w : World) (hn : ¬ (131072 : Int) < n) (hdm : Calls Tryf.prog 6 #[.slice a n c, .int .i64 low] w fun e w' => e = .returned (.bool false) ∧ w' = w) :
    Calls Tryf.prog 3 #[.slice a n c, .int .i64 low, .int .i64 mi, .int .i64 ot] w fun e w' => e = .returned (.bool true) ∧ w' = w := by
  have hby := bytes5_any a n c low mi ot w
  go_enter Tryf.func3, Tryf.ntmps3
  go_wp2_with fail
  refine hby.mono ?_
  rintro e w' ⟨⟨t, rfl⟩, hw⟩
  subst w'
  cases t
  · go_wp2
    go_ret
    exact ⟨rfl, rfl⟩
  go_wp2_with fail
  refine hdm.mono ?_
  rintro e w' ⟨rfl, hw⟩
  subst w'
  go_wp2
  go_ret
  exact ⟨rfl, rfl⟩

theorem order_fl (x low : Int) : (FloatKind.f64.format.order (fl x low) (fl x low) == some .eq) = true := by
  rw [order_eq, fl_word, order_self _ _ (mg_le _ _)]
  rfl

def Y1 (w : World) (a1 : Option Addr) (n1 c1 : Nat) (w1 : World) : Prop := n1 = 0 ∧ Kept w w1 []
def Y2 (w : World) (a1 : Option Addr) (n1 c1 : Nat) (a2 : Option Addr) (n2 c2 : Nat) (w2 : World) : Prop := n1 = 0 ∧ n2 = 0 ∧ Kept w w2 []

theorem law3_empty (F : Interp) (a : Option Addr) (c : Nat) (low mi ot : Int) (w : World) (hF : F.answers w.tape) (hin : In w a 0 []) (hnil : a = none → c = 0) (x1 : Nat) (ov : Bool)
    (cmp : (FloatKind.f64.format.order x1 x1 == some .eq) = true) (hrnd : Rnd ov x1 (.returned (.tuple #[.float .f64 0, .bool false]))) (htot : ∀ e, TotOut 0 low e → Tot ov x1 e)
    (hdm : Calls Tryf.prog 6 #[.slice a 0 c, .int .i64 low] w fun e w' => BOut e ∧ w' = w) :
    Calls Tryf.prog 3 #[.slice a 0 c, .int .i64 low, .int .i64 mi, .int .i64 ot] w fun e w' => e = .returned (.bool true) ∧ Kept w w' [] := by
  have hcl : ∀ w1, Kept w w1 [] → Calls Tryf.prog 7 #[.slice a 0 c] w1 fun e w2 => Sl e (fun _ n2 _ w' => n2 = 0 ∧ Kept w w' []) w2 := by
    intro w1 k
    by_cases ha : a = none
    · have hc := hnil ha
      subst hc
      subst ha
      refine (clone_nil w1).mono ?_
      rintro e w2 ⟨he, rfl⟩
      exact ⟨none, 0, 0, he, rfl, k⟩
    · refine (clone_any a 0 c [] w1 (by omega) (hin.kept k) ha).mono ?_
      rintro e w2 ⟨he, _, k2⟩
      exact ⟨_, 0, 0, he, rfl, k.trans k2⟩
  refine law3_core a 0 c low mi ot x1 w (by omega) ov cmp (bytes5_any a 0 c low mi ot w) hdm (Y1 w) (Y2 w) (Y1 w) ?_ ?_ ?_ ?_
  · refine (hcl w (Kept.refl _ _)).mono ?_
    rintro e w1 ⟨a1, n1, c1, he, h1, k⟩
    exact ⟨a1, n1, c1, he, h1, k⟩
  · rintro a1 n1 c1 w1 ⟨h1, k⟩
    refine (hcl w1 k).mono ?_
    rintro e w2 ⟨a2, n2, c2, he, h2, k2⟩
    exact ⟨a2, n2, c2, he, h1, h2, k2⟩
  · rintro a1 n1 c1 a2 n2 c2 w2 ⟨h1, h2, k⟩
    subst h1
    refine (round_empty a1 c1 low w2).mono ?_
    rintro e w3 ⟨rfl, k3⟩
    exact ⟨hrnd, h2, k.trans k3⟩
  · rintro a2 n2 c2 w3 ⟨h2, k⟩
    subst h2
    have hF3 : F.answers w3.tape := by rw [k.tape]; exact hF
    by_cases o : 0 < ot
    · refine (total_other F a2 0 c2 low mi ot w3 hF3 o).mono ?_
      rintro e w4 ⟨he, k4⟩
      exact ⟨Or.inl ⟨o, he⟩, k.trans k4⟩
    · by_cases m : 0 < mi
      · refine (total_missing a2 0 c2 low mi ot w3 (by omega) m).mono ?_
        rintro e w4 ⟨he, k4⟩
        exact ⟨Or.inr (Or.inl ⟨o, m, he⟩), k.trans k4⟩
      · refine (total_empty a2 c2 low mi ot w3 (by omega) (by omega)).mono ?_
        rintro e w4 ⟨ho, k4⟩
        exact ⟨Or.inr (Or.inr ⟨o, m, htot e ho⟩), k.trans k4⟩

/-- a copy of the digits, apart from all that the caller has -/
structure CopyAt (w : World) (n : Nat) (zs : List Int) (a1 : Option Addr) (n1 c1 : Nat) (w1 : World) (D : Nat) : Prop where
  e1 : a1 = some ⟨D, 0, none⟩
  e2 : n1 = n
  e3 : c1 = n
  hD : w.heap.size ≤ D
  hr : Row w1 .i64 2 D n zs
  k : Kept w w1 []

def C1 (w : World) (n : Nat) (zs : List Int) (a1 : Option Addr) (n1 c1 : Nat) (w1 : World) : Prop := ∃ D, CopyAt w n zs a1 n1 c1 w1 D
def C2 (w : World) (n : Nat) (zs : List Int) (a1 : Option Addr) (n1 c1 : Nat) (a2 : Option Addr) (n2 c2 : Nat) (w2 : World) : Prop := ∃ D D2, CopyAt w n zs a1 n1 c1 w2 D ∧ CopyAt w n zs a2 n2 c2 w2 D2

theorem law3_full (F : Interp) (b off m c : Nat) (low mi ot : Int) (zs : List Int) (w : World) (hF : F.answers w.tape) (hn : m + 1 ≤ 131072) (hin : In w (some ⟨b, off, none⟩) (m + 1) zs) (car : Carried zs)
    (l1 : -34 ≤ low) (l2 : low ≤ 1048576) (hx : 2 ^ (-1074 - 32 * low).toNat ∣ (val zs).natAbs)
    (x1 : Nat) (ov : Bool) (cmp : (FloatKind.f64.format.order x1 x1 == some .eq) = true) (hrnd : ∀ w e w', RndOut w (val zs) low e w' → Rnd ov x1 e) (htot : ∀ e, TotOut (val zs) low e → Tot ov x1 e)
    (hdm : Calls Tryf.prog 6 #[.slice (some ⟨b, off, none⟩) (m + 1 : Nat) c, .int .i64 low] w fun e w' => BOut e ∧ w' = w) :
    Calls Tryf.prog 3 #[.slice (some ⟨b, off, none⟩) (m + 1 : Nat) c, .int .i64 low, .int .i64 mi, .int .i64 ot] w fun e w' => e = .returned (.bool true) ∧ Kept w w' [] := by
  refine law3_core (some ⟨b, off, none⟩) (m + 1) c low mi ot x1 w (by omega) ov cmp (bytes5_any _ _ c low mi ot w) hdm (C1 w (m + 1) zs) (C2 w (m + 1) zs) (C1 w (m + 1) zs) ?_ ?_ ?_ ?_
  · refine (clone_any _ (m + 1) c zs w hn hin (by simp)).mono ?_
    rintro e w1 ⟨he, hr, k⟩
    exact ⟨_, _, _, he, w.heap.size, rfl, rfl, rfl, Nat.le_refl _, hr, k⟩
  · rintro a1 n1 c1 w1 ⟨D, h⟩
    refine (clone_any _ (m + 1) c zs w1 hn (hin.kept h.k) (by simp)).mono ?_
    rintro e w2 ⟨he, hr2, k2⟩
    exact ⟨_, _, _, he, D, w1.heap.size, ⟨h.e1, h.e2, h.e3, h.hD, h.hr.kept k2 (by simp), h.k.trans k2⟩, ⟨rfl, rfl, rfl, h.k.size, hr2, h.k.trans k2⟩⟩
  · rintro a1 n1 c1 a2 n2 c2 w2 ⟨D, D2, h, h2⟩
    obtain ⟨e1, e2, e3, _, hr, k⟩ := h
    subst e1
    subst e2
    subst e3
    refine (round_any D m low zs w2 hn hin.1 hr car l1 l2 hx).mono ?_
    intro e w3 ho
    exact ⟨hrnd _ _ _ ho, D2, h2.e1, h2.e2, h2.e3, h2.hD, h2.hr.kept ho.2 (by simp), h2.k.trans ho.2⟩
  · rintro a2 n2 c2 w3 ⟨D, h⟩
    obtain ⟨e1, e2, e3, hD, hr, k⟩ := h
    subst e1
    subst e2
    subst e3
    have hF3 : F.answers w3.tape := by rw [k.tape]; exact hF
    by_cases o : 0 < ot
    · refine (total_other F (some ⟨D, 0, none⟩) (m + 1) (m + 1) low mi ot w3 hF3 o).mono ?_
      rintro e w4 ⟨he, k4⟩
      exact ⟨Or.inl ⟨o, he⟩, k.trans k4⟩
    · by_cases mm : 0 < mi
      · refine (total_missing (some ⟨D, 0, none⟩) (m + 1) (m + 1) low mi ot w3 (by omega) mm).mono ?_
        rintro e w4 ⟨he, k4⟩
        exact ⟨Or.inr (Or.inl ⟨o, mm, he⟩), k.trans k4⟩
      · refine (total_digits F D (m + 1) (m + 1) low mi ot zs w3 hF3 hr hin.1 (maxLen_ge _ (by omega)) (by omega) (by omega) l1 l2 car hx (by omega) (by omega)).mono ?_
        rintro e w4 ⟨ho, k4⟩
        exact ⟨Or.inr (Or.inr ⟨o, mm, htot e ho⟩), k.then k4 (by simp; omega)⟩

/-- THE LAW: whatever the input -/
theorem law3_any (F : Interp) (a : Option Addr) (n c : Nat) (low mi ot : Int) (zs : List Int) (w : World) (hF : F.answers w.tape) (hin : In w a n zs) (hnil : a = none → n = 0 ∧ c = 0)
    (hwf : ∀ i, i < n → -9223372036854775808 ≤ zs.getD i 0 ∧ zs.getD i 0 < 9223372036854775808) :
    Calls Tryf.prog 3 #[.slice a n c, .int .i64 low, .int .i64 mi, .int .i64 ot] w fun e w' => e = .returned (.bool true) ∧ Kept w w' [] := by
  by_cases hn : (131072 : Int) < n
  · refine (law3_big a n c low mi ot w hn).mono ?_
    rintro e w' ⟨he, rfl⟩
    exact ⟨he, Kept.refl _ _⟩
  have hn' : n ≤ 131072 := by omega
  have hdm := dom_any a n c low zs w hn' hin hwf
  by_cases hD : Dom zs n low
  · have hx := dom_dvd hin.1 hD
    have hdm' : Calls Tryf.prog 6 #[.slice a n c, .int .i64 low] w fun e w' => BOut e ∧ w' = w := hdm.mono fun e w' ⟨⟨t, he, _⟩, hw⟩ => ⟨⟨t, he⟩, hw⟩
    by_cases n0 : n = 0
    · subst n0
      have ez : zs = [] := List.eq_nil_of_length_eq_zero hin.1
      subst ez
      have h0 : mg (0 : Int).natAbs low = 0 := by
        unfold mg
        rw [if_pos (by rfl)]
      have hf0 : fl 0 low = 0 := by
        rw [fl_word, h0, decide_eq_false (by omega), word_no]
      have hov : over 0 low = false := by
        unfold over
        rw [h0]
        exact decide_eq_false (by omega)
      exact law3_empty F a c low mi ot w hF hin (fun h => (hnil h).2) (fl 0 low) (over 0 low) (order_fl 0 low) (Or.inl ⟨hov, by rw [hf0]⟩) (fun e h => tot_of h) hdm'
    · obtain ⟨m, rfl⟩ : ∃ m, n = m + 1 := ⟨n - 1, by omega⟩
      have car := dom_car hin.1 (by omega) hD
      obtain ⟨b, off, rfl, hb, hcl⟩ := hin.2 (by omega)
      exact law3_full F b off m c low mi ot zs w hF hn' hin car hD.l1 hD.l2 hx (fl (val zs) low) (over (val zs) low) (order_fl _ low) (fun _ e _ h => rnd_of h) (fun e h => tot_of h) hdm'
  · refine (law3_no a n c low mi ot w hn (hdm.mono ?_)).mono ?_
    · rintro e w' ⟨⟨t, he, ht⟩, hw⟩
      cases t
      · exact ⟨he, hw⟩
      · exact absurd (ht rfl) hD
    · rintro e w' ⟨he, rfl⟩
      exact ⟨he, Kept.refl _ _⟩

end Fl
end Go.Proofs.Qxb6615471aFmt
