/-
  THE WALK of FnTotalEvalNegationIsExact.
-/
import Derived.Test.Qxb6615471aFmtNg
namespace Go.Proofs.Qxb6615471aFmt
open Go.RowKit Go.Extern.Stop Go.Stop Go.Extern
set_option linter.unusedVariables false
namespace Fl

theorem R_pos (m : Nat) (e : Int) (hm : m ≠ 0) (h : 2 ^ (-e).toNat ≤ m) : 1 ≤ R m e := by
  unfold R rne
  have h1 : 1 ≤ m * 2 ^ e.toNat / 2 ^ (-e).toNat := by
    rw [Nat.le_div_iff_mul_le (Nat.two_pow_pos _), Nat.one_mul]
    exact Nat.le_trans h (Nat.le_mul_of_pos_right _ (Nat.two_pow_pos _))
  omega

theorem rung_pos (V : Nat) (p : Int) (h : V ≠ 0) (hx : 2 ^ (-1074 - p).toNat ∣ V) : 1 ≤ rung V p := by
  have hL := Nat.log2_self_le h
  have hk := Nat.le_of_dvd (by omega) hx
  have hR : 1 ≤ R V (p - max (p + V.log2 - 52) (-1074)) := by
    apply R_pos V _ h
    by_cases c : -1022 ≤ p + V.log2
    · have e : (-(p - max (p + (V.log2 : Int) - 52) (-1074))).toNat ≤ V.log2 := by omega
      exact Nat.le_trans (Nat.pow_le_pow_right (by decide) e) hL
    · have e : (-(p - max (p + (V.log2 : Int) - 52) (-1074))).toNat = (-1074 - p).toNat := by omega
      rw [e]
      exact hk
  unfold rung
  omega

/-- the sum is a whole multiple of 2 ^ -1074 -/
theorem dom_dvd {zs : List Int} {n : Nat} {low : Int} (hl : zs.length = n) (d : Dom zs n low) : 2 ^ (-1074 - 32 * low).toNat ∣ (val zs).natAbs := by
  by_cases e : low = -34
  · have e2 : (-1074 - 32 * low).toNat = 14 := by omega
    rw [e2]
    match zs, hl, d with
    | [], _, _ => exact ⟨0, rfl⟩
    | z :: ts, hl, d =>
      have h := d.first e (by simp at hl; omega)
      simp only [List.getD_cons_zero] at h
      simp only [val]
      rw [show (2 : Nat) ^ 14 = 16384 from rfl]
      omega
  · have := d.l1
    have e2 : (-1074 - 32 * low).toNat = 0 := by omega
    rw [e2]
    exact ⟨_, (Nat.one_mul _).symm⟩

theorem dom_car {zs : List Int} {n : Nat} {low : Int} (hl : zs.length = n) (hn : 1 ≤ n) (d : Dom zs n low) : Carried zs := by
  refine ⟨fun i hi => (d.digit i (by omega)).1 (by omega), ?_⟩
  rw [hl]
  exact (d.digit (n - 1) (by omega)).2 (by omega)

/-- what the law compares -/
structure Cmp (s : Int) (x1 x2 : Nat) : Prop where
  pos : 0 < s → (FloatKind.f64.format.order x1 0 == some .gt) = true
  neg : s < 0 → (FloatKind.f64.format.order x1 0 == some .lt) = true
  zero : s = 0 → (FloatKind.f64.format.order x1 0 != some .eq) = false
  opp : (FloatKind.f64.format.order x2 (Op.negFloat .f64 x1) == some .eq) = true

theorem order_eq (x y : Nat) : FloatKind.f64.format.order x y = Ieee.double.order x y := rfl
theorem order_neg_word (r : Nat) (h : r ≤ 2047 * 2 ^ 52) (h0 : 0 < r) : Ieee.double.order (Ieee.double.word true r) 0 = some .lt := by
  rw [word_yes]
  exact order_neg r h h0
theorem order_self' (r : Nat) (h : r ≤ 2047 * 2 ^ 52) : Ieee.double.order r r = some .eq := by
  have := order_self false r h
  rw [word_no] at this
  exact this

theorem cmp_zero : Cmp 0 0 0 := by
  have hn0 : Op.negFloat .f64 0 = 2 ^ 63 := by decide
  refine ⟨fun h => by omega, fun h => by omega, fun _ => ?_, ?_⟩
  · rw [order_eq, order_zero0]
    rfl
  · rw [hn0, order_eq, order_zeros]
    rfl

theorem cmp_neg (r : Nat) (hle : r ≤ 2047 * 2 ^ 52) (hp : 1 ≤ r) : Cmp (-1) (Ieee.double.word true r) r := by
  have hng := neg_bits r true (by omega)
  rw [Bool.not_true, word_no] at hng
  have h1 := order_neg_word r hle (by omega)
  have h2 := order_self' r hle
  rw [← order_eq] at h1 h2
  generalize Ieee.double.word true r = x at *
  refine ⟨fun h => by omega, fun _ => ?_, fun h => by omega, ?_⟩
  · rw [h1]
    rfl
  · rw [hng, h2]
    rfl

theorem cmp_pos (r : Nat) (hle : r ≤ 2047 * 2 ^ 52) (hp : 1 ≤ r) : Cmp 1 r (Ieee.double.word true r) := by
  have hng := neg_bits r false (by omega)
  rw [Bool.not_false, word_no] at hng
  have h1 := order_pos r hle (by omega)
  have h2 := order_self true r hle
  rw [← order_eq] at h1 h2
  generalize Ieee.double.word true r = x at *
  refine ⟨fun _ => ?_, fun h => by omega, fun h => by omega, ?_⟩
  · rw [h1]
    rfl
  · rw [hng, h2]
    rfl

theorem cmp_fl (x low : Int) (hx : 2 ^ (-1074 - 32 * low).toNat ∣ x.natAbs) : Cmp (sgn x) (fl x low) (fl (-x) low) := by
  have hle := mg_le x.natAbs low
  have hpos : x ≠ 0 → 1 ≤ mg x.natAbs low := by
    intro h
    unfold mg
    rw [if_neg (by omega)]
    exact rung_pos _ _ (by omega) hx
  have hzero : x = 0 → mg x.natAbs low = 0 := by
    intro h
    unfold mg
    rw [if_pos (by omega)]
  rw [fl_word, fl_word, Int.natAbs_neg]
  generalize mg x.natAbs low = r at *
  by_cases h0 : x = 0
  · have hs : sgn x = 0 := by
      unfold sgn
      rw [if_neg (by omega), if_pos h0]
    rw [hs, hzero h0, decide_eq_false (by omega), decide_eq_false (by omega), word_no]
    exact cmp_zero
  · by_cases hn : x < 0
    · have hs : sgn x = -1 := by
        unfold sgn
        rw [if_pos hn]
      rw [hs, decide_eq_true hn, decide_eq_false (by omega), word_no]
      exact cmp_neg r hle (hpos h0)
    · have hs : sgn x = 1 := by
        unfold sgn
        rw [if_neg hn, if_neg h0]
      rw [hs, decide_eq_false hn, decide_eq_true (by omega), word_no]
      exact cmp_pos r hle (hpos h0)

set_option maxHeartbeats 8000000 in
set_option maxRecDepth 100000 in
/-- the law where the sum is in its domain, over what its callees give -/
theorem law4_core (a : Option Addr) (n c : Nat) (low x s : Int) (x1 x2 : Nat) (w : World) (hn : ¬ (131072 : Int) < n) (ov : Bool) (cmp : Cmp s x1 x2)
    (hby : Calls Tryf.prog 11 #[.slice a n c, .int .i64 low] w fun e w' => BOut e ∧ w' = w)
    (hdm : Calls Tryf.prog 6 #[.slice a n c, .int .i64 low] w fun e w' => BOut e ∧ w' = w)
    (N1 : Option Addr → Nat → Nat → World → Prop) (N2 : Option Addr → Nat → Nat → Option Addr → Nat → Nat → World → Prop) (N3 : Option Addr → Nat → Nat → World → Prop)
    (hng : Calls Tryf.prog 12 #[.slice a n c] w fun e w1 => ∃ a2 n2 c2, e = .returned (.slice a2 n2 c2) ∧ N1 a2 n2 c2 w1)
    (hsg : ∀ a2 n2 c2 w1, N1 a2 n2 c2 w1 → Calls Tryf.prog 13 #[.slice a n c] w1 fun e w' => e = .returned (.int .i64 s) ∧ w' = w1)
    (hcl : ∀ a2 n2 c2 w1, N1 a2 n2 c2 w1 → Calls Tryf.prog 7 #[.slice a n c] w1 fun e w2 => ∃ a1 n1 c1, e = .returned (.slice a1 n1 c1) ∧ N2 a1 n1 c1 a2 n2 c2 w2)
    (ht1 : ∀ a1 n1 c1 a2 n2 c2 w2, N2 a1 n1 c1 a2 n2 c2 w2 → Calls Tryf.prog 9 #[.slice a1 n1 c1, .int .i64 low, .int .i64 0, .int .i64 0] w2 fun e w3 => ((ov = false ∧ e = .returned (.tuple #[valV 2 x1, .nilIface])) ∨ (ov = true ∧ ∃ p, e = .returned (.tuple #[valV 0 0, .iface 79 (.pointer (some p))]))) ∧ N3 a2 n2 c2 w3)
    (ht2 : ∀ a2 n2 c2 w3 w3', N3 a2 n2 c2 w3 → Kept w3 w3' [] → Calls Tryf.prog 9 #[.slice a2 n2 c2, .int .i64 low, .int .i64 0, .int .i64 0] w3' fun e w4 => ((ov = false ∧ e = .returned (.tuple #[valV 2 x2, .nilIface])) ∨ (ov = true ∧ ∃ p, e = .returned (.tuple #[valV 0 0, .iface 79 (.pointer (some p))]))) ∧ ∃ S, Kept w3' w4 S ∧ ∀ b ∈ S, b < w3.heap.size ∧ w.heap.size ≤ b)
    (hN3 : ∀ a2 n2 c2 w3, N3 a2 n2 c2 w3 → Kept w w3 []) :
    Calls Tryf.prog 4 #[.slice a n c, .int .i64 low] w fun e w' => e = .returned (.bool true) ∧ Kept w w' [] := by
  have H1 := hide hng
  have H2 := hide hsg
  have H3 := hide hcl
  have H4 := hide ht1
  have H5 := hide ht2
  have H6 := hide hN3
  clear hng hsg hcl ht1 ht2 hN3
  go_enter Tryf.func4, Tryf.ntmps4
  go_wp2_with fail
  refine hby.mono ?_
  rintro e w' ⟨⟨t, rfl⟩, hw⟩
  subst w'
  cases t
  · go_wp2
    go_ret
    exact ⟨rfl, Kept.refl _ _⟩
  go_wp2_with fail
  refine hdm.mono ?_
  rintro e w' ⟨⟨t, rfl⟩, hw⟩
  subst w'
  clear hby hdm
  cases t
  · go_wp2
    go_ret
    exact ⟨rfl, Kept.refl _ _⟩
  go_wp2_with fail
  refine H1.out.mono ?_
  rintro e w1 ⟨a2, n2, c2, rfl, p1⟩
  go_wp2_with fail
  refine (H2.out _ _ _ _ p1).mono ?_
  rintro e w' ⟨rfl, hw⟩
  subst w'
  go_wp2_with fail
  refine (H3.out _ _ _ _ p1).mono ?_
  rintro e w2 ⟨a1, n1, c1, rfl, p2⟩
  go_wp2_with fail
  refine (H4.out _ _ _ _ _ _ _ p2).mono ?_
  rintro e w3 ⟨hout1, p3⟩
  have hK3 := H6.out _ _ _ _ p3
  clear H1 H2 H3 H4 H6 p1 p2
  rcases hout1 with ⟨rfl, rfl⟩ | ⟨rfl, p, rfl⟩
  · unfold valV
    go_upto_region 11 with fail
    obtain ⟨W1, hW1⟩ : ∃ W1, W1 = w3.alloc (.cells #[.int .u8 2, .string ⟨#[]⟩, .float .f64 x1, .bool false, .slice none 0 0] 32) := ⟨_, rfl⟩
    have k31 : Kept w3 W1 [] := by rw [hW1]; exact (Kept.refl _ _).alloc _
    have hb1 : W1.heap[w3.heap.size]? = some (.cells #[.int .u8 2, .string ⟨#[]⟩, .float .f64 x1, .bool false, .slice none 0 0] 32 (0, 0)) := by rw [hW1]; exact (MapKept.heap_alloc w3 _).1
    rw [← hW1]
    have h5 := hide (H5.out _ _ _ _ W1 p3 k31)
    have hlt : w3.heap.size < W1.heap.size := (Array.getElem?_eq_some_iff.1 hb1).1
    have HB := hide hb1
    have HK := hide (hK3.trans k31)
    clear hW1 k31 H5 p3 hb1 hK3
    go_wp2_with fail
    refine h5.out.mono ?_
    rintro e w4 ⟨hout2, S, kS, hS⟩
    have hb4 := (kS.block w3.heap.size hlt (fun m => by have := (hS _ m).1; omega)).trans HB.out
    have HK4 := hide (HK.out.then kS (fun b hb => Or.inr (hS b hb).2))
    clear h5 HB HK kS
    rcases hout2 with ⟨_, rfl⟩ | ⟨h, _⟩
    · unfold valV
      have c0 : w4.cell? ⟨w3.heap.size, 0, none⟩ = some (.int .u8 2) := by rw [cell_of_row w4 _ 0 _ _ _ hb4]; rfl
      have c2 : w4.cell? ⟨w3.heap.size, 2, none⟩ = some (.float .f64 x1) := by rw [cell_of_row w4 _ 2 _ _ _ hb4]; rfl
      have hlt4 : w3.heap.size < w4.heap.size := (Array.getElem?_eq_some_iff.1 hb4).1
      obtain ⟨B, hB⟩ : ∃ B, B = w3.heap.size := ⟨_, rfl⟩
      rw [← hB] at c0 c2 hlt4 ⊢
      clear hb4 hlt hS hB
      go_upto_region 12 with fail
      obtain ⟨W2, hW2⟩ : ∃ W2, W2 = w4.alloc (.cells #[.int .u8 2, .string ⟨#[]⟩, .float .f64 x2, .bool false, .slice none 0 0] 32) := ⟨_, rfl⟩
      have k42 : Kept w4 W2 [] := by rw [hW2]; exact (Kept.refl _ _).alloc _
      have hb2 : W2.heap[w4.heap.size]? = some (.cells #[.int .u8 2, .string ⟨#[]⟩, .float .f64 x2, .bool false, .slice none 0 0] 32 (0, 0)) := by rw [hW2]; exact (MapKept.heap_alloc w4 _).1
      rw [← hW2]
      have d0 : W2.cell? ⟨w4.heap.size, 0, none⟩ = some (.int .u8 2) := by rw [cell_of_row W2 _ 0 _ _ _ hb2]; rfl
      have d2 : W2.cell? ⟨w4.heap.size, 2, none⟩ = some (.float .f64 x2) := by rw [cell_of_row W2 _ 2 _ _ _ hb2]; rfl
      have e0 := (k42.cell (p := ⟨B, 0, none⟩) hlt4 (by simp)).trans c0
      have e2 := (k42.cell (p := ⟨B, 2, none⟩) hlt4 (by simp)).trans c2
      have HK5 := hide (HK4.out.trans k42)
      have hop := cmp.opp
      have hneg : ∀ w, (Op.unary .neg (.float .f64 x1)).run Tryf.prog w = .ok (.float .f64 (Op.negFloat .f64 x1)) w := fun w => neg_word x1 _ rfl w
      generalize Op.negFloat .f64 x1 = x1' at *
      generalize w4.heap.size = B2 at *
      clear c0 c2 k42 hb2 hW2 HK4 hlt4
      by_cases s1 : 0 < s
      · have h1 := cmp.pos s1
        have s3 : (s == 0) = false := by simp; omega
        clear cmp
        go_wp2
        go_ret
        exact ⟨rfl, HK5.out⟩
      · by_cases s2 : s < 0
        · have h1 := cmp.neg s2
          have s3 : (s == 0) = false := by simp; omega
          clear cmp
          go_wp2
          go_ret
          exact ⟨rfl, HK5.out⟩
        · have s3 : s = 0 := by omega
          have h1 := cmp.zero s3
          subst s3
          clear cmp
          go_wp2
          go_ret
          exact ⟨rfl, HK5.out⟩
    · cases h
  · unfold valV
    go_upto_region 11 with fail
    obtain ⟨W1, hW1⟩ : ∃ W1, W1 = w3.alloc (.cells #[.int .u8 0, .string ⟨#[]⟩, .float .f64 0, .bool false, .slice none 0 0] 32) := ⟨_, rfl⟩
    have k31 : Kept w3 W1 [] := by rw [hW1]; exact (Kept.refl _ _).alloc _
    have hb1 : W1.heap[w3.heap.size]? = some (.cells #[.int .u8 0, .string ⟨#[]⟩, .float .f64 0, .bool false, .slice none 0 0] 32 (0, 0)) := by rw [hW1]; exact (MapKept.heap_alloc w3 _).1
    rw [← hW1]
    have h5 := hide (H5.out _ _ _ _ W1 p3 k31)
    have hlt : w3.heap.size < W1.heap.size := (Array.getElem?_eq_some_iff.1 hb1).1
    have HB := hide hb1
    have HK := hide (hK3.trans k31)
    clear hW1 k31 H5 p3 hb1 hK3
    go_wp2_with fail
    refine h5.out.mono ?_
    rintro e w4 ⟨hout2, S, kS, hS⟩
    have hb4 := (kS.block w3.heap.size hlt (fun m => by have := (hS _ m).1; omega)).trans HB.out
    have HK4 := hide (HK.out.then kS (fun b hb => Or.inr (hS b hb).2))
    clear h5 HB HK kS
    rcases hout2 with ⟨h, _⟩ | ⟨_, p', rfl⟩
    · cases h
    · unfold valV
      clear hb4 cmp
      go_wp2
      go_ret
      exact ⟨rfl, HK4.out.alloc _⟩

set_option maxRecDepth 100000 in
theorem law4_big (a : Option Addr) (n c : Nat) (low : Int) (w : World) (hn : (131072 : Int) < n) : Calls Tryf.prog 4 #[.slice a n c, .int .i64 low] w fun e w' => e = .returned (.bool true) ∧ w' = w := by
  have hby := bytes_any a n c low w
  go_enter Tryf.func4, Tryf.ntmps4
  go_wp2_with fail
  refine hby.mono ?_
  rintro e w' ⟨⟨t, rfl⟩, hw⟩
  subst w'
  cases t
  · go_wp2
    go_ret
    exact ⟨rfl, rfl⟩
  go_wp2
  go_ret
  exact ⟨rfl, rfl⟩

set_option maxRecDepth 100000 in
theorem law4_no (a : Option Addr) (n c : Nat) (low : Int) (w : World) (hn : ¬ (131072 : Int) < n) (hdm : Calls Tryf.prog 6 #[.slice a n c, .int .i64 low] w fun e w' => e = .returned (.bool false) ∧ w' = w) :
    Calls Tryf.prog 4 #[.slice a n c, .int .i64 low] w fun e w' => e = .returned (.bool true) ∧ w' = w := by
  have hby := bytes_any a n c low w
  go_enter Tryf.func4, Tryf.ntmps4
  go_wp2_with fail
  refine hby.mono ?_
  rintro e w' ⟨⟨t, rfl⟩, hw⟩
  subst w'
  cases t
  · go_wp2
    go_ret
    exact ⟨rfl, rfl⟩
  go_wp2_with fail
  refine hdm.mono ?_
  rintro e w' ⟨rfl, hw⟩
  subst w'
  go_wp2
  go_ret
  exact ⟨rfl, rfl⟩

theorem In.kept {w w' : World} {a : Option Addr} {n : Nat} {zs : List Int} (h : In w a n zs) (k : Kept w w' []) : In w' a n zs := by
  refine ⟨h.1, fun hn => ?_⟩
  obtain ⟨b, off, e, hb, hc⟩ := h.2 hn
  have := k.size
  exact ⟨b, off, e, by omega, hc.kept k hb (by simp)⟩

theorem tot_split {x low : Int} {e : Ending} (h : TotOut x low e) : (decide (mg x.natAbs low = 2047 * 2 ^ 52) = false ∧ e = .returned (.tuple #[valV 2 (fl x low), .nilIface])) ∨ (decide (mg x.natAbs low = 2047 * 2 ^ 52) = true ∧ ∃ p, e = .returned (.tuple #[valV 0 0, .iface 79 (.pointer (some p))])) := by
  rcases h with ⟨h1, h2⟩ | ⟨h1, h2⟩
  · exact Or.inl ⟨decide_eq_false h1, h2⟩
  · exact Or.inr ⟨decide_eq_true h1, h2⟩

theorem tot_split' {x low : Int} {e : Ending} (h : TotOut (-x) low e) : (decide (mg x.natAbs low = 2047 * 2 ^ 52) = false ∧ e = .returned (.tuple #[valV 2 (fl (-x) low), .nilIface])) ∨ (decide (mg x.natAbs low = 2047 * 2 ^ 52) = true ∧ ∃ p, e = .returned (.tuple #[valV 0 0, .iface 79 (.pointer (some p))])) := by
  have := tot_split h
  rw [Int.natAbs_neg] at this
  exact this

theorem maxLen_ge (n : Nat) (h : n ≤ 1048576) : n ≤ maxLen := by
  unfold maxLen
  omega

end Fl
end Go.Proofs.Qxb6615471aFmt
