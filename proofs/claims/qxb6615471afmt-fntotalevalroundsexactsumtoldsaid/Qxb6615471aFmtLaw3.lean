/-
  THE WALK of FnTotalEvalRoundsExactSum.
-/
import Derived.Test.Qxb6615471aFmtRnd
import Derived.Test.Qxb6615471aFmtLaw4b
namespace Go.Proofs.Qxb6615471aFmt
open Go.RowKit Go.Extern.Stop Go.Stop Go.Extern
set_option linter.unusedVariables false
set_option linter.unusedSimpArgs false
namespace Fl

set_option maxHeartbeats 4000000 in
set_option maxRecDepth 100000 in
/-- zzMagnitude of no digits -/
theorem mgn_empty (a : Option Addr) (c : Nat) (w : World) : Calls Tryf.prog 14 #[.slice a 0 c] w fun e w' => (∃ E, e = .returned (.tuple #[.slice (some ⟨E, 0, none⟩) 0 0, .bool false])) ∧ Kept w w' [] := by
  have hm2 : ∀ w, (Instr.makeSlice 39 (.int .i64 0) (.int .i64 0)).run Tryf.prog w = .ok (.slice (some ⟨w.heap.size, 0, none⟩) 0 0) (w.alloc (.cells (madeCells #[Value.int .u32 0] 0) 62)) := fun w => make_run 39 62 .u32 4 Tryf.underlying39 Tryf.info62 (by decide) 0 (by omega) w
  obtain ⟨w0, hw0⟩ : ∃ w0, w0 = w.alloc (.cells (madeCells #[Value.int .u32 0] 0) 62) := ⟨_, rfl⟩
  have k0 : Kept w w0 [] := by rw [hw0]; exact (Kept.refl _ _).alloc _
  have HW := hide hw0
  clear hw0
  go_enter Tryf.func14, Tryf.ntmps14
  go_upto_block 0 with fail
  rw [← HW.out]
  clear HW hm2
  generalize w.heap.size = E1
  go_cut [6] (fun s6 wx => w0 = wx)
  case first =>
    go_wp2_with fail
    go_loopw [6] (fun s6 wr => s6 = .int .i64 0 ∧ w0 = wr) (fun s6 _ => 0)
    case atStart => exact ⟨rfl, rfl⟩
    case round =>
      obtain ⟨rfl, hw⟩ := hrel
      subst hw
      go_wp2
      go_meet
      exact rfl
  case rest =>
  subst hcut
  go_wp2
  go_ret2
  exact ⟨⟨E1, rfl⟩, k0⟩

set_option maxHeartbeats 4000000 in
set_option maxRecDepth 100000 in
/-- zzRound of no digits -/
theorem round_empty (a : Option Addr) (c : Nat) (low : Int) (w : World) : Calls Tryf.prog 8 #[.slice a 0 c, .int .i64 low] w fun e w' => e = .returned (.tuple #[.float .f64 0, .bool false]) ∧ Kept w w' [] := by
  have hmg := mgn_empty a c w
  go_enter Tryf.func8, Tryf.ntmps8
  go_wp2_with fail
  refine hmg.mono ?_
  rintro e w1 ⟨⟨E, rfl⟩, k1⟩
  clear hmg
  go_upto_block 0 with fail
  go_cut [8] (fun s8 wx => s8 = .int .i64 (-1) ∧ w1 = wx)
  case first =>
    go_wp2_with fail
    go_loopw [8] (fun s8 wr => s8 = .int .i64 (-1) ∧ w1 = wr) (fun s8 _ => 0)
    case atStart => exact ⟨by go_num, rfl⟩
    case round =>
      obtain ⟨rfl, hw⟩ := hrel
      subst hw
      go_wp2
      go_meet
      exact ⟨rfl, by trivial⟩
  case rest =>
  obtain ⟨rfl, hw⟩ := hcut
  subst hw
  go_wp2
  go_ret2
  exact ⟨rfl, k1⟩

/-- what zzRound gives, as the law's core takes it -/
def Rnd (ov : Bool) (r : Nat) (e : Ending) : Prop := (ov = false ∧ e = .returned (.tuple #[.float .f64 r, .bool false])) ∨ (ov = true ∧ e = .returned (.tuple #[.float .f64 0, .bool true]))

theorem rnd_of {w w' : World} {x low : Int} {e : Ending} (h : RndOut w x low e w') : Rnd (over x low) (fl x low) e := by
  rcases h.1 with ⟨h1, h2⟩ | ⟨h1, h2⟩
  · exact Or.inl ⟨decide_eq_false h1, h2⟩
  · exact Or.inr ⟨decide_eq_true h1, h2⟩

/-- what ZZTotalEval gives, whatever the counts -/
def All (mi ot : Int) (ov : Bool) (r : Nat) (e : Ending) : Prop :=
  (0 < ot ∧ ∃ p, e = .returned (.tuple #[valV 0 0, .iface 79 (.pointer (some p))])) ∨ (¬ 0 < ot ∧ 0 < mi ∧ e = .returned (.tuple #[valV 0 0, .nilIface])) ∨ (¬ 0 < ot ∧ ¬ 0 < mi ∧ Tot ov r e)

/-- a slice is handed back -/
def Sl (e : Ending) (N : Option Addr → Nat → Nat → World → Prop) (w : World) : Prop := ∃ a n c, e = .returned (.slice a n c) ∧ N a n c w

/-- the parts of a value that the law keeps in a block of its own -/
theorem val_facts (w4 W : World) (k : Int) (r : Nat) (hW : W = w4.alloc (.cells #[.int .u8 k, .string ⟨#[]⟩, .float .f64 r, .bool false, .slice none 0 0] 32)) :
    Kept w4 W [] ∧ W.heap[w4.heap.size]? = some (.cells #[.int .u8 k, .string ⟨#[]⟩, .float .f64 r, .bool false, .slice none 0 0] 32 (0, 0)) ∧
    W.cell? ⟨w4.heap.size, 0, none⟩ = some (.int .u8 k) ∧ W.cell? ⟨w4.heap.size, 1, none⟩ = some (.string ⟨#[]⟩) ∧ W.cell? ⟨w4.heap.size, 2, none⟩ = some (.float .f64 r) ∧ W.cell? ⟨w4.heap.size, 3, none⟩ = some (.bool false) ∧ W.cell? ⟨w4.heap.size, 4, none⟩ = some (.slice none 0 0) := by
  have hb : W.heap[w4.heap.size]? = some (.cells #[.int .u8 k, .string ⟨#[]⟩, .float .f64 r, .bool false, .slice none 0 0] 32 (0, 0)) := by rw [hW]; exact (MapKept.heap_alloc w4 _).1
  refine ⟨by rw [hW]; exact (Kept.refl _ _).alloc _, hb, ?_, ?_, ?_, ?_, ?_⟩
  · rw [cell_of_row W _ 0 _ _ _ hb]; rfl
  · rw [cell_of_row W _ 1 _ _ _ hb]; rfl
  · rw [cell_of_row W _ 2 _ _ _ hb]; rfl
  · rw [cell_of_row W _ 3 _ _ _ hb]; rfl
  · rw [cell_of_row W _ 4 _ _ _ hb]; rfl

set_option maxHeartbeats 8000000 in
set_option maxRecDepth 100000 in
/-- the law where the sum is in its domain, over what its callees give -/
theorem law3_core (a : Option Addr) (n c : Nat) (low mi ot : Int) (x1 : Nat) (w : World) (hn : ¬ (131072 : Int) < n) (ov : Bool) (cmp : (FloatKind.f64.format.order x1 x1 == some .eq) = true)
    (hby : Calls Tryf.prog 5 #[.slice a n c, .int .i64 low, .int .i64 mi, .int .i64 ot] w fun e w' => BOut e ∧ w' = w)
    (hdm : Calls Tryf.prog 6 #[.slice a n c, .int .i64 low] w fun e w' => BOut e ∧ w' = w)
    (N1 : Option Addr → Nat → Nat → World → Prop) (N2 : Option Addr → Nat → Nat → Option Addr → Nat → Nat → World → Prop) (N3 : Option Addr → Nat → Nat → World → Prop)
    (h7a : Calls Tryf.prog 7 #[.slice a n c] w fun e w1 => Sl e N1 w1)
    (h7b : ∀ a1 n1 c1 w1, N1 a1 n1 c1 w1 → Calls Tryf.prog 7 #[.slice a n c] w1 fun e w2 => Sl e (N2 a1 n1 c1) w2)
    (h8 : ∀ a1 n1 c1 a2 n2 c2 w2, N2 a1 n1 c1 a2 n2 c2 w2 → Calls Tryf.prog 8 #[.slice a1 n1 c1, .int .i64 low] w2 fun e w3 => Rnd ov x1 e ∧ N3 a2 n2 c2 w3)
    (h9 : ∀ a2 n2 c2 w3, N3 a2 n2 c2 w3 → Calls Tryf.prog 9 #[.slice a2 n2 c2, .int .i64 low, .int .i64 mi, .int .i64 ot] w3 fun e w4 => All mi ot ov x1 e ∧ Kept w w4 []) :
    Calls Tryf.prog 3 #[.slice a n c, .int .i64 low, .int .i64 mi, .int .i64 ot] w fun e w' => e = .returned (.bool true) ∧ Kept w w' [] := by
  have H1 := hide h7a
  have H2 := hide h7b
  have H3 := hide h8
  have H4 := hide h9
  clear h7a h7b h8 h9
  go_enter Tryf.func3, Tryf.ntmps3
  go_wp2_with fail
  refine hby.mono ?_
  rintro e w' ⟨⟨t, rfl⟩, hw⟩
  subst w'
  cases t
  · go_wp2
    go_ret
    exact ⟨rfl, Kept.refl _ _⟩
  go_wp2_with fail
  refine hdm.mono ?_
  rintro e w' ⟨⟨t, rfl⟩, hw⟩
  subst w'
  clear hby hdm
  cases t
  · go_wp2
    go_ret
    exact ⟨rfl, Kept.refl _ _⟩
  go_wp2_with fail
  refine H1.out.mono ?_
  rintro e w1 ⟨a1, n1, c1, rfl, p1⟩
  go_wp2_with fail
  refine (H2.out _ _ _ _ p1).mono ?_
  rintro e w2 ⟨a2, n2, c2, rfl, p2⟩
  go_wp2_with fail
  refine (H3.out _ _ _ _ _ _ _ p2).mono ?_
  rintro e w3 ⟨hr, p3⟩
  have h9 := hide (H4.out _ _ _ _ p3)
  clear H1 H2 H3 H4 p1 p2 p3
  rcases hr with ⟨hov, rfl⟩ | ⟨hov, rfl⟩
  · subst hov
    go_wp2_with fail
    refine h9.out.mono ?_
    rintro e w4 ⟨hall, k4⟩
    clear h9
    rcases hall with ⟨ho, p, rfl⟩ | ⟨ho, hm, rfl⟩ | ⟨ho, hm, ht⟩
    · unfold valV
      go_upto_region 12 with fail
      obtain ⟨W, hW⟩ : ∃ W, W = w4.alloc (.cells #[.int .u8 0, .string ⟨#[]⟩, .float .f64 0, .bool false, .slice none 0 0] 32) := ⟨_, rfl⟩
      rw [← hW]
      obtain ⟨kW, hb, d0, d1, d2, d3, d4⟩ := val_facts w4 W 0 0 hW
      have HK4 := hide (k4.trans kW)
      clear hW kW k4
      have hz := zeroV_any W
      unfold valV at hz
      generalize w4.heap.size = B at *
      go_wp2_with fail
      refine hz.mono ?_
      rintro e w5 ⟨rfl, k5⟩
      go_wp2
      go_ret
      exact ⟨rfl, HK4.out.trans k5⟩
    · unfold valV
      go_upto_region 14 with fail
      obtain ⟨W, hW⟩ : ∃ W, W = w4.alloc (.cells #[.int .u8 0, .string ⟨#[]⟩, .float .f64 0, .bool false, .slice none 0 0] 32) := ⟨_, rfl⟩
      rw [← hW]
      obtain ⟨kW, hb, d0, d1, d2, d3, d4⟩ := val_facts w4 W 0 0 hW
      have HK4 := hide (k4.trans kW)
      clear hW kW k4
      have hz := zeroV_any W
      unfold valV at hz
      generalize w4.heap.size = B at *
      go_wp2_with fail
      refine hz.mono ?_
      rintro e w5 ⟨rfl, k5⟩
      go_wp2
      go_ret
      exact ⟨rfl, HK4.out.trans k5⟩
    · rcases ht with ⟨_, rfl⟩ | ⟨h, _⟩
      rotate_left
      · cases h
      unfold valV
      go_upto_region 17 with fail
      obtain ⟨W, hW⟩ : ∃ W, W = w4.alloc (.cells #[.int .u8 2, .string ⟨#[]⟩, .float .f64 x1, .bool false, .slice none 0 0] 32) := ⟨_, rfl⟩
      rw [← hW]
      obtain ⟨kW, hb, d0, d1, d2, d3, d4⟩ := val_facts w4 W 2 x1 hW
      have HK4 := hide (k4.trans kW)
      clear hW kW k4
      generalize w4.heap.size = B at *
      have hnl : ∀ w, (binOp .eql 30 (.slice none 0 0) (.slice none 0 0)).run Tryf.prog w = .ok (.bool true) w := fun w => Lib.run_eql_slice_nil (P := Tryf.prog) w 30 9 none 0 0 0 0 Tryf.underlying30
      go_wp2
      go_ret
      exact ⟨rfl, HK4.out⟩
  · subst hov
    go_wp2_with fail
    refine h9.out.mono ?_
    rintro e w4 ⟨hall, k4⟩
    clear h9
    rcases hall with ⟨ho, p, rfl⟩ | ⟨ho, hm, rfl⟩ | ⟨ho, hm, ht⟩
    · unfold valV
      go_upto_region 12 with fail
      obtain ⟨W, hW⟩ : ∃ W, W = w4.alloc (.cells #[.int .u8 0, .string ⟨#[]⟩, .float .f64 0, .bool false, .slice none 0 0] 32) := ⟨_, rfl⟩
      rw [← hW]
      obtain ⟨kW, hb, d0, d1, d2, d3, d4⟩ := val_facts w4 W 0 0 hW
      have HK4 := hide (k4.trans kW)
      clear hW kW k4
      have hz := zeroV_any W
      unfold valV at hz
      generalize w4.heap.size = B at *
      go_wp2_with fail
      refine hz.mono ?_
      rintro e w5 ⟨rfl, k5⟩
      go_wp2
      go_ret
      exact ⟨rfl, HK4.out.trans k5⟩
    · unfold valV
      go_upto_region 14 with fail
      obtain ⟨W, hW⟩ : ∃ W, W = w4.alloc (.cells #[.int .u8 0, .string ⟨#[]⟩, .float .f64 0, .bool false, .slice none 0 0] 32) := ⟨_, rfl⟩
      rw [← hW]
      obtain ⟨kW, hb, d0, d1, d2, d3, d4⟩ := val_facts w4 W 0 0 hW
      have HK4 := hide (k4.trans kW)
      clear hW kW k4
      have hz := zeroV_any W
      unfold valV at hz
      generalize w4.heap.size = B at *
      go_wp2_with fail
      refine hz.mono ?_
      rintro e w5 ⟨rfl, k5⟩
      go_wp2
      go_ret
      exact ⟨rfl, HK4.out.trans k5⟩
    · rcases ht with ⟨h, _⟩ | ⟨_, p, rfl⟩
      · cases h
      unfold valV
      go_upto_region 16 with fail
      obtain ⟨W, hW⟩ : ∃ W, W = w4.alloc (.cells #[.int .u8 0, .string ⟨#[]⟩, .float .f64 0, .bool false, .slice none 0 0] 32) := ⟨_, rfl⟩
      rw [← hW]
      obtain ⟨kW, hb, d0, d1, d2, d3, d4⟩ := val_facts w4 W 0 0 hW
      have HK4 := hide (k4.trans kW)
      clear hW kW k4
      have hz := zeroV_any W
      unfold valV at hz
      generalize w4.heap.size = B at *
      go_wp2_with fail
      refine hz.mono ?_
      rintro e w5 ⟨rfl, k5⟩
      go_wp2
      go_ret
      exact ⟨rfl, HK4.out.trans k5⟩

end Fl
end Go.Proofs.Qxb6615471aFmt
