/-
  THE WALK of float64.
-/
import Derived.Test.Qxb6615471aFmtOpp
namespace Go.Proofs.Qxb6615471aFmt
open Go.RowKit
set_option linter.unusedVariables false
namespace Fl

/-- the float of the sum x * 2 ^ (32 * low) -/
def fl (x low : Int) : Nat := Ieee.double.word (decide (x < 0)) (mg x.natAbs low)

theorem mg_le (V : Nat) (low : Int) : mg V low ≤ 2047 * 2 ^ 52 := by
  unfold mg
  split
  · omega
  · exact rung_le _ _

theorem float_empty (T c : Nat) (a : Option Addr) (W : World) (h : W.cell? ⟨T, 0, none⟩ = some (.slice a 0 c)) :
    Calls Tryf.prog 18 #[.pointer (some ⟨T, 0, none⟩)] W fun e w' => e = .returned (.float .f64 0) ∧ w' = W := by
  go_enter Tryf.func18, Tryf.ntmps18
  go_wp2
  go_ret
  exact ⟨rfl, rfl⟩

set_option maxHeartbeats 8000000 in
set_option maxRecDepth 100000 in
theorem float_pos (T D m cap : Nat) (low mi ot y : Int) (zs : List Int) (W : World) (h : NS W T D low mi ot W D (m + 1) cap zs) (hn : m ≤ 1048573) (hl1 : -34 ≤ low) (hl2 : low ≤ 1048576) (hy : W.cell? ⟨D, m, none⟩ = some (.int .i64 y)) (y0 : 0 ≤ y) (R : Nat)
    (hm : ∀ q, Calls Tryf.prog 22 #[.pointer (some ⟨T, 0, none⟩)] (W.drewN q) fun e w' => e = .returned (.float .f64 R) ∧ Kept (W.drewN q) w' []) :
    Calls Tryf.prog 18 #[.pointer (some ⟨T, 0, none⟩)] W fun e w' => e = .returned (.float .f64 R) ∧ Kept W w' [] := by
  have c0 := h.sum.c0
  have HM := hide hm
  clear hm h
  have hm0 : (0 : Int) ≤ m := by omega
  have hm1 : (m : Int) < (m : Int) + 1 := by omega
  have y0' : decide (0 ≤ y) = true := decide_eq_true y0
  go_enter Tryf.func18, Tryf.ntmps18
  go_wp2_with fail
  go_quiet (fail)
  go_wp2_with fail
  refine (HM.out _).mono ?_
  rintro e w' ⟨rfl, k⟩
  go_wp2
  go_ret
  exact ⟨rfl, ((Kept.refl W []).drewN _).trans k⟩

set_option maxHeartbeats 8000000 in
set_option maxRecDepth 100000 in
theorem float_neg (T D m cap : Nat) (low mi ot y : Int) (zs : List Int) (W : World) (h : NS W T D low mi ot W D (m + 1) cap zs) (hn : m ≤ 1048573) (hl1 : -34 ≤ low) (hl2 : low ≤ 1048576) (hy : W.cell? ⟨D, m, none⟩ = some (.int .i64 y)) (y0 : y < 0) (R R' : Nat) (P1 P2 P3 : World → Prop)
    (h1 : ∀ q, Calls Tryf.prog 23 #[.pointer (some ⟨T, 0, none⟩)] (W.drewN q) fun e w' => e = .returned (.tuple #[]) ∧ P1 w')
    (h2 : ∀ w1, P1 w1 → Calls Tryf.prog 22 #[.pointer (some ⟨T, 0, none⟩)] w1 fun e w' => e = .returned (.float .f64 R) ∧ P2 w')
    (h3 : ∀ w2, P2 w2 → Calls Tryf.prog 23 #[.pointer (some ⟨T, 0, none⟩)] w2 fun e w' => e = .returned (.tuple #[]) ∧ P3 w')
    (h4 : ∀ w3, (Op.unary .neg (.float .f64 R)).run Tryf.prog w3 = .ok (.float .f64 R') w3) :
    Calls Tryf.prog 18 #[.pointer (some ⟨T, 0, none⟩)] W fun e w' => e = .returned (.float .f64 R') ∧ P3 w' := by
  have c0 := h.sum.c0
  have H1 := hide h1
  have H2 := hide h2
  have H3 := hide h3
  clear h1 h2 h3 h
  have hm0 : (0 : Int) ≤ m := by omega
  have hm1 : (m : Int) < (m : Int) + 1 := by omega
  have y0' : decide (0 ≤ y) = false := decide_eq_false (by omega)
  go_enter Tryf.func18, Tryf.ntmps18
  go_wp2_with fail
  go_quiet (fail)
  go_wp2_with fail
  refine (H1.out _).mono ?_
  rintro e w1 ⟨rfl, p1⟩
  clear c0 hy
  go_wp2_with fail
  refine (H2.out w1 p1).mono ?_
  rintro e w2 ⟨rfl, p2⟩
  go_wp2_with fail
  refine (H3.out w2 p2).mono ?_
  rintro e w3 ⟨rfl, p3⟩
  go_wp2
  go_ret
  exact ⟨rfl, p3⟩

theorem xor_top (r : Nat) (h : r < 2 ^ 63) : r ^^^ 2 ^ 63 = 2 ^ 63 + r := by
  have e : 2 ^ 63 + r = 2 ^ 63 ||| r := by
    have := nat_join 63 (2 ^ 63) r (by decide) h
    exact this.symm
  rw [e]
  apply Nat.eq_of_testBit_eq
  intro i
  rw [Nat.testBit_xor, Nat.testBit_or, Nat.testBit_two_pow]
  by_cases hi : i = 63
  · subst hi
    have : r.testBit 63 = false := Nat.testBit_lt_two_pow h
    simp [this]
  · have : decide (63 = i) = false := decide_eq_false (fun e => hi e.symm)
    simp [this]

theorem xor_top' (r : Nat) (h : r < 2 ^ 63) : (2 ^ 63 + r) ^^^ 2 ^ 63 = r := by
  rw [← xor_top r h, Nat.xor_assoc, Nat.xor_self, Nat.xor_zero]

theorem neg_bits (r : Nat) (s : Bool) (hr : r < 2 ^ 63) : Op.negFloat .f64 (Ieee.double.word s r) = Ieee.double.word (!s) r := by
  show Ieee.double.word s r ^^^ 2 ^ 63 = _
  cases s
  · rw [word_no, Bool.not_false, word_yes]
    exact xor_top r hr
  · rw [word_yes, Bool.not_true, word_no]
    exact xor_top' r hr

theorem neg_word (x y : Nat) (h : Op.negFloat .f64 x = y) (w : World) : (Op.unary .neg (.float .f64 x)).run Tryf.prog w = .ok (.float .f64 y) w := by
  subst h
  rfl

/-- WHAT float64 GIVES: the sum rounded once. -/
theorem float_any (T D n cap : Nat) (low mi ot : Int) (zs : List Int) (W : World) (h : NS W T D low mi ot W D n cap zs) (hn1 : 1 ≤ n) (hn : n ≤ 1048574) (hl1 : -34 ≤ low) (hl2 : low ≤ 1048576) (c : Carried zs)
    (hx : 2 ^ (-1074 - 32 * low).toNat ∣ (val zs).natAbs) :
    Calls Tryf.prog 18 #[.pointer (some ⟨T, 0, none⟩)] W fun e w' => e = .returned (.float .f64 (fl (val zs) low)) ∧ Kept W w' [T, D] := by
  have hlen := h.len
  have hne : zs ≠ [] := by
    intro e
    rw [e] at hlen
    simp at hlen
    omega
  obtain ⟨m, rfl⟩ : ∃ m, n = m + 1 := ⟨n - 1, by omega⟩
  have cm := h.row.cell m (by omega)
  obtain ⟨y, hy⟩ : ∃ y, y = zs.getD m 0 := ⟨_, rfl⟩
  rw [← hy] at cm
  have sg := c.sign hne
  rw [hlen, show m + 1 - 1 = m from rfl, ← hy] at sg
  by_cases y0 : 0 ≤ y
  · have hv0 := sg.2 y0
    obtain ⟨V, hV⟩ := Int.eq_ofNat_of_zero_le hv0
    have hb := c.all (by rw [hlen, show m + 1 - 1 = m from rfl, ← hy]; exact y0)
    have hx' : 2 ^ (-1074 - 32 * low).toNat ∣ V := by
      rw [hV, Int.natAbs_natCast] at hx
      exact hx
    have hmg : ∀ q, Calls Tryf.prog 22 #[.pointer (some ⟨T, 0, none⟩)] (W.drewN q) fun e w' => e = .returned (.float .f64 (mg V low)) ∧ Kept (W.drewN q) w' [] := fun q =>
      mag_any T D (m + 1) cap V low mi ot zs (W.drewN q) (h.drewN q).sum (h.drewN q).row hlen (by omega) (fun i hi => hb i (by omega)) hl1 hl2 hV hx'
    have hr : fl (val zs) low = mg V low := by
      unfold fl
      rw [hV, decide_eq_false (by omega), Int.natAbs_natCast]
      exact word_no _
    rw [hr]
    clear hr hx hx'
    generalize mg V low = R at *
    refine (float_pos T D m cap low mi ot y zs W h (by omega) hl1 hl2 cm y0 R hmg).mono ?_
    · rintro e w' ⟨he, k⟩
      exact ⟨he, k.mono (by simp)⟩
  · have hv0 : val zs < 0 := by
      have : ¬ 0 ≤ val zs := fun e => y0 (sg.1 e)
      omega
    have hr : fl (val zs) low = Ieee.double.word true (mg (val zs).natAbs low) := by
      unfold fl
      rw [decide_eq_true hv0]
    rw [hr]
    have hmg : ∀ (w1 : World) (D1 n1 cap1 : Nat) (z1 : List Int), SumAt w1 T D1 n1 cap1 low mi ot → Row w1 .i64 2 D1 cap1 z1 → z1.length = n1 → n1 ≤ 1048576 → (∀ i, i < n1 → 0 ≤ z1.getD i 0 ∧ z1.getD i 0 < 4294967296) → val z1 = ((val zs).natAbs : Int) →
        Calls Tryf.prog 22 #[.pointer (some ⟨T, 0, none⟩)] w1 fun e w' => e = .returned (.float .f64 (mg (val zs).natAbs low)) ∧ Kept w1 w' [] := fun w1 D1 n1 cap1 z1 a1 a2 a3 a4 a5 a6 =>
      mag_any T D1 n1 cap1 (val zs).natAbs low mi ot z1 w1 a1 a2 a3 a4 a5 hl1 hl2 a6 hx
    have hle := mg_le (val zs).natAbs low
    clear hr hx
    generalize mg (val zs).natAbs low = R at *
    have hnb : Op.negFloat .f64 R = Ieee.double.word true R := by
      have := neg_bits R false (by omega)
      rw [word_no, Bool.not_false] at this
      exact this
    generalize Ieee.double.word true R = R' at *
    refine float_neg T D m cap low mi ot y zs W h (by omega) hl1 hl2 cm (by omega) R R' (NegOut W T D (m + 1) low mi ot (-val zs)) (NegOut W T D (m + 1) low mi ot (-val zs)) (fun w' => Kept W w' [T, D]) (fun q => ?_) ?_ ?_ (fun w3 => neg_word R R' hnb w3)
    · exact negate_any W T D D (m + 1) cap low mi ot zs (W.drewN q) (h.drewN q) hn1 (by omega) hl1 hl2 c (by omega)
    · rintro w1 ⟨D1, n1, cap1, z1, s1, cz1, vz1, b1, b2⟩
      have hne1 : z1 ≠ [] := by
        intro e
        have := s1.len
        rw [e] at this
        simp at this
        omega
      have hl1' := s1.len
      have hvp : 0 ≤ val z1 := by rw [vz1]; omega
      have hb1 := cz1.all ((cz1.sign hne1).1 hvp)
      have hV1 : val z1 = ((val zs).natAbs : Int) := by rw [vz1]; omega
      refine (hmg w1 D1 n1 cap1 z1 s1.sum s1.row s1.len (by omega) (fun i hi => hb1 i (by omega)) hV1).mono ?_
      rintro e w2 ⟨he, k2⟩
      exact ⟨he, D1, n1, cap1, z1, ⟨s1.sum.kept k2 (by simp), s1.row.kept k2 (by simp), s1.len, s1.ne, s1.capm, s1.own, s1.kept.then k2 (by simp)⟩, cz1, vz1, b1, b2⟩
    · rintro w2 ⟨D1, n1, cap1, z1, s1, cz1, vz1, b1, b2⟩
      refine (negate_any W T D D1 n1 cap1 low mi ot z1 w2 s1 b1 (by omega) hl1 hl2 cz1 (by rw [vz1]; omega)).mono ?_
      rintro e w3 ⟨he, D3, n3, cap3, z3, s3, _⟩
      exact ⟨he, s3.kept⟩

end Fl
end Go.Proofs.Qxb6615471aFmt
