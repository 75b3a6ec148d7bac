/-
  FnTotalEvalNegationIsExact: THE LAW, whatever the input.
-/
import Derived.Test.Qxb6615471aFmtLaw4
namespace Go.Proofs.Qxb6615471aFmt
open Go.RowKit Go.Extern.Stop Go.Stop Go.Extern
set_option linter.unusedVariables false
namespace Fl

def over (x low : Int) : Bool := decide (mg x.natAbs low = 2047 * 2 ^ 52)
/-- what ZZTotalEval gives, as the law's core takes it -/
def Tot (ov : Bool) (r : Nat) (e : Ending) : Prop := (ov = false ∧ e = .returned (.tuple #[valV 2 r, .nilIface])) ∨ (ov = true ∧ ∃ p, e = .returned (.tuple #[valV 0 0, .iface 79 (.pointer (some p))]))

theorem tot_of {x low : Int} {e : Ending} (h : TotOut x low e) : Tot (over x low) (fl x low) e := by
  rcases h with ⟨h1, h2⟩ | ⟨h1, h2⟩
  · exact Or.inl ⟨decide_eq_false h1, h2⟩
  · exact Or.inr ⟨decide_eq_true h1, h2⟩

theorem over_neg (x low : Int) : over (-x) low = over x low := by
  unfold over
  rw [Int.natAbs_neg]

/-- neg's digits, apart from all that the caller has -/
structure NegAt (w : World) (n : Nat) (zs : List Int) (a2 : Option Addr) (n2 c2 : Nat) (w1 : World) (D : Nat) (out : List Int) : Prop where
  e1 : a2 = some ⟨D, 0, none⟩
  e2 : n2 = n + 1
  e3 : c2 = n + 1
  hD : w.heap.size ≤ D
  hr : Row w1 .i64 2 D (n + 1) out
  hc : Carried out
  hl : out.length = n + 1
  hv : val out = -val zs
  k : Kept w w1 []

def N1 (w : World) (n : Nat) (zs : List Int) (a2 : Option Addr) (n2 c2 : Nat) (w1 : World) : Prop := ∃ D out, NegAt w n zs a2 n2 c2 w1 D out
def N2 (w : World) (n : Nat) (zs : List Int) (a1 : Option Addr) (n1 c1 : Nat) (a2 : Option Addr) (n2 c2 : Nat) (w2 : World) : Prop :=
  ∃ D1 D out, NegAt w n zs a2 n2 c2 w2 D out ∧ a1 = some ⟨D1, 0, none⟩ ∧ n1 = n ∧ c1 = n ∧ w.heap.size ≤ D1 ∧ Row w2 .i64 2 D1 n zs ∧ D < D1
def Z1 (w : World) (a2 : Option Addr) (n2 c2 : Nat) (w1 : World) : Prop := n2 = 0 ∧ Kept w w1 []
def Z2 (w : World) (a1 : Option Addr) (n1 c1 : Nat) (a2 : Option Addr) (n2 c2 : Nat) (w2 : World) : Prop := n1 = 0 ∧ n2 = 0 ∧ Kept w w2 []

theorem law4_empty (a : Option Addr) (c : Nat) (low : Int) (w : World) (hin : In w a 0 []) (hnil : a = none → c = 0) (x1 : Nat) (ov : Bool) (cmp : Cmp 0 x1 x1) (htot : ∀ e, TotOut 0 low e → Tot ov x1 e)
    (hdm : Calls Tryf.prog 6 #[.slice a 0 c, .int .i64 low] w fun e w' => BOut e ∧ w' = w) :
    Calls Tryf.prog 4 #[.slice a 0 c, .int .i64 low] w fun e w' => e = .returned (.bool true) ∧ Kept w w' [] := by
  have hsg : ∀ w1, Kept w w1 [] → Calls Tryf.prog 13 #[.slice a 0 c] w1 fun e w' => e = .returned (.int .i64 0) ∧ w' = w1 := by
    intro w1 k
    have := sign_any a 0 c [] w1 (by omega) (hin.kept k) (fun h => by omega)
    have e : sgn (val []) = 0 := by decide
    rw [e] at this
    exact this
  refine law4_core a 0 c low 0 0 x1 x1 w (by omega) ov cmp (bytes_any a 0 c low w) hdm (Z1 w) (Z2 w) (Z1 w) ?_ ?_ ?_ ?_ ?_ ?_
  · refine (ng_empty a c w).mono ?_
    rintro e w1 ⟨⟨a', c', he⟩, k⟩
    exact ⟨a', 0, c', he, rfl, k⟩
  · rintro a2 n2 c2 w1 ⟨_, k⟩
    exact hsg w1 k
  · rintro a2 n2 c2 w1 ⟨h2, k⟩
    by_cases ha : a = none
    · have hc := hnil ha
      subst hc
      subst ha
      refine (clone_nil w1).mono ?_
      rintro e w2 ⟨he, rfl⟩
      exact ⟨none, 0, 0, he, rfl, h2, k⟩
    · refine (clone_any a 0 c [] w1 (by omega) (hin.kept k) ha).mono ?_
      rintro e w2 ⟨he, _, k2⟩
      exact ⟨_, 0, 0, he, rfl, h2, k.trans k2⟩
  · rintro a1 n1 c1 a2 n2 c2 w2 ⟨h1, h2, k⟩
    subst h1
    refine (total_empty a1 c1 low 0 0 w2 (by omega) (by omega)).mono ?_
    rintro e w3 ⟨ho, k3⟩
    exact ⟨htot e ho, h2, k.trans k3⟩
  · rintro a2 n2 c2 w3 w3' ⟨h2, k⟩ k'
    subst h2
    refine (total_empty a2 c2 low 0 0 w3' (by omega) (by omega)).mono ?_
    rintro e w4 ⟨ho, k4⟩
    exact ⟨htot e ho, [], k4, by simp⟩
  · rintro a2 n2 c2 w3 ⟨_, k⟩
    exact k

theorem law4_full (F : Interp) (b off n c : Nat) (low : Int) (zs : List Int) (w : World) (hF : F.answers w.tape) (hn1 : 1 ≤ n) (hn : n ≤ 131072) (hin : In w (some ⟨b, off, none⟩) n zs) (hb : b < w.heap.size) (hcl : Cl w .i64 b off zs) (car : Carried zs)
    (l1 : -34 ≤ low) (l2 : low ≤ 1048576) (hx : 2 ^ (-1074 - 32 * low).toNat ∣ (val zs).natAbs) (hxn : 2 ^ (-1074 - 32 * low).toNat ∣ (-val zs).natAbs)
    (x1 x2 : Nat) (ov : Bool) (s : Int) (hs : sgn (val zs) = s) (cmp : Cmp s x1 x2) (ht1 : ∀ e, TotOut (val zs) low e → Tot ov x1 e) (ht2 : ∀ e, TotOut (-val zs) low e → Tot ov x2 e)
    (hdm : Calls Tryf.prog 6 #[.slice (some ⟨b, off, none⟩) n c, .int .i64 low] w fun e w' => BOut e ∧ w' = w) :
    Calls Tryf.prog 4 #[.slice (some ⟨b, off, none⟩) n c, .int .i64 low] w fun e w' => e = .returned (.bool true) ∧ Kept w w' [] := by
  refine law4_core (some ⟨b, off, none⟩) n c low 0 s x1 x2 w (by omega) ov cmp (bytes_any _ n c low w) hdm (N1 w n zs) (N2 w n zs) (N1 w n zs) ?_ ?_ ?_ ?_ ?_ ?_
  · refine (ng_any b off n c zs w hn1 hn hin.1 hb hcl car).mono ?_
    rintro e w1 ⟨D, out, he, hD, hr, hc, hl, hv, k⟩
    exact ⟨_, _, _, he, D, out, rfl, rfl, rfl, hD, hr, hc, hl, hv, k⟩
  · rintro a2 n2 c2 w1 ⟨D, out, h⟩
    have := sign_any _ n c zs w1 hn (hin.kept h.k) (fun _ => car)
    rw [hs] at this
    exact this
  · rintro a2 n2 c2 w1 ⟨D, out, h⟩
    refine (clone_any _ n c zs w1 hn (hin.kept h.k) (by simp)).mono ?_
    rintro e w2 ⟨he, hr2, k2⟩
    exact ⟨_, _, _, he, w1.heap.size, D, out, ⟨h.e1, h.e2, h.e3, h.hD, h.hr.kept k2 (by simp), h.hc, h.hl, h.hv, h.k.trans k2⟩, rfl, rfl, rfl, h.k.size, hr2, h.hr.lt⟩
  · rintro a1 n1 c1 a2 n2 c2 w2 ⟨D1, D, out, h, e1, e2, e3, hD1, hr1, hlt⟩
    subst e1
    subst e2
    subst e3
    have hF2 : F.answers w2.tape := by rw [h.k.tape]; exact hF
    refine (total_digits F D1 _ _ low 0 0 zs w2 hF2 hr1 hin.1 (maxLen_ge _ (by omega)) hn1 (by omega) l1 l2 car hx (by omega) (by omega)).mono ?_
    rintro e w3 ⟨ho, k3⟩
    exact ⟨ht1 e ho, D, out, h.e1, h.e2, h.e3, h.hD, h.hr.kept k3 (by simp; omega), h.hc, h.hl, h.hv, h.k.then k3 (by simp; omega)⟩
  · rintro a2 n2 c2 w3 w3' ⟨D, out, h⟩ k'
    obtain ⟨e1, e2, e3, hD, hr, hc, hl, hv, k⟩ := h
    subst e1
    subst e2
    subst e3
    have hF3 : F.answers w3'.tape := by rw [k'.tape, k.tape]; exact hF
    refine (total_digits F D (n + 1) (n + 1) low 0 0 out w3' hF3 (hr.kept k' (by simp)) hl (maxLen_ge _ (by omega)) (by omega) (by omega) l1 l2 hc (by rw [hv]; exact hxn) (by omega) (by omega)).mono ?_
    rintro e w4 ⟨ho, k4⟩
    rw [hv] at ho
    have hlt := hr.lt
    exact ⟨ht2 e ho, [D], k4, by simp; omega⟩
  · rintro a2 n2 c2 w3 ⟨D, out, h⟩
    exact h.k

/-- THE LAW: whatever the input -/
theorem law4_any (F : Interp) (a : Option Addr) (n c : Nat) (low : Int) (zs : List Int) (w : World) (hF : F.answers w.tape) (hin : In w a n zs) (hnil : a = none → n = 0 ∧ c = 0)
    (hwf : ∀ i, i < n → -9223372036854775808 ≤ zs.getD i 0 ∧ zs.getD i 0 < 9223372036854775808) :
    Calls Tryf.prog 4 #[.slice a n c, .int .i64 low] w fun e w' => e = .returned (.bool true) ∧ Kept w w' [] := by
  by_cases hn : (131072 : Int) < n
  · refine (law4_big a n c low w hn).mono ?_
    rintro e w' ⟨he, rfl⟩
    exact ⟨he, Kept.refl _ _⟩
  have hn' : n ≤ 131072 := by omega
  have hdm := dom_any a n c low zs w hn' hin hwf
  by_cases hD : Dom zs n low
  · have hx := dom_dvd hin.1 hD
    have hdm' : Calls Tryf.prog 6 #[.slice a n c, .int .i64 low] w fun e w' => BOut e ∧ w' = w := hdm.mono fun e w' ⟨⟨t, he, _⟩, hw⟩ => ⟨⟨t, he⟩, hw⟩
    by_cases n0 : n = 0
    · subst n0
      have ez : zs = [] := List.eq_nil_of_length_eq_zero hin.1
      subst ez
      have cmp := cmp_fl 0 low ⟨0, by simp⟩
      have es : sgn 0 = 0 := by decide
      rw [Int.neg_zero, es] at cmp
      exact law4_empty a c low w hin (fun h => (hnil h).2) (fl 0 low) (over 0 low) cmp (fun e h => tot_of h) hdm'
    · have n1 : 1 ≤ n := by omega
      have car := dom_car hin.1 n1 hD
      obtain ⟨b, off, rfl, hb, hcl⟩ := hin.2 (by omega)
      have hxn : 2 ^ (-1074 - 32 * low).toNat ∣ (-val zs).natAbs := by rw [Int.natAbs_neg]; exact hx
      refine law4_full F b off n c low zs w hF n1 hn' hin hb hcl car hD.l1 hD.l2 hx hxn (fl (val zs) low) (fl (-val zs) low) (over (val zs) low) (sgn (val zs)) rfl (cmp_fl (val zs) low hx) (fun e h => tot_of h) (fun e h => ?_) hdm'
      have := tot_of h
      rw [over_neg] at this
      exact this
  · refine (law4_no a n c low w hn (hdm.mono ?_)).mono ?_
    · rintro e w' ⟨⟨t, he, ht⟩, hw⟩
      cases t
      · exact ⟨he, hw⟩
      · exact absurd (ht rfl) hD
    · rintro e w' ⟨he, rfl⟩
      exact ⟨he, Kept.refl _ _⟩

end Fl
end Go.Proofs.Qxb6615471aFmt
