/-
  THE WALK of ZZnewGlobProgram.
-/
import Derived.Test.Qxb6615024aDoorPlaces
namespace Go.Proofs.Qxb6615024aDoor
open Go.RowKit
set_option linter.unusedVariables false
namespace Gl

theorem Tryd.info43 : (Tryd.prog.info? 43).map (fun i => (i.zero, i.size, i.bytes)) = some (some (.agg #[.slice none 0 0, .slice none 0 0]), 2, 48) := by kernel_rfl

theorem made_two (z : Value) (n : Nat) : (madeCells #[z, z] n).toList = List.replicate n z := by
  apply List.ext_getElem
  · simp [madeCells]
  · intro i h1 h2
    have : i % 2 = 0 ∨ i % 2 = 1 := by omega
    rcases this with h | h <;> simp [madeCells, h]

/-- what ZZnewGlobProgram leaves: block g holds the program, the block behind the old ones its places -/
def NewpOut (a1 a2 a3 a4 : Option Addr) (l1 c1 l2 c2 l3 c3 l4 c4 nc : Nat) (vs : List Value) (w : World) (e : Ending) (w' : World) : Prop :=
  ∃ (g : Nat) (us : List Value), e = .returned (.pointer (some ⟨g, 0, none⟩)) ∧ w.heap.size < g ∧ g < w'.heap.size ∧ w'.cell? ⟨g, 1, none⟩ = some (.slice none 0 0) ∧ w'.cell? ⟨g, 4, none⟩ = some (.slice a1 l1 c1) ∧ w'.cell? ⟨g, 5, none⟩ = some (.slice a2 l2 c2) ∧
    w'.cell? ⟨g, 7, none⟩ = some (.slice a3 l3 c3) ∧ w'.cell? ⟨g, 8, none⟩ = some (.bool false) ∧ w'.cell? ⟨g, 11, none⟩ = some (.slice a4 l4 c4) ∧ w'.cell? ⟨g, 12, none⟩ = some (.slice (some ⟨w.heap.size, 0, none⟩) nc nc) ∧
    VRow w' 43 w.heap.size us ∧ us.length = 2 * nc ∧ Kept w w' [] ∧ ∀ j, j < nc → us.getD (2 * j) undef = vs.getD j undef ∧ us.getD (2 * j + 1) undef = .slice none 0 0

set_option maxHeartbeats 4000000 in
set_option maxRecDepth 100000 in
theorem newp_any (wd : Int) (a1 a2 a3 a4 : Option Addr) (l1 c1 l2 c2 l3 c3 l4 c4 Bp nc : Nat) (vs : List Value) (w : World) (hnc : nc ≤ 4096) (hv : VRow w 22 Bp vs) (hvl : vs.length = nc)
    (hsl : ∀ j, j < nc → ∃ a l c, vs.getD j undef = .slice a l c) :
    Calls Tryd.prog 9 #[.int .i64 wd, .slice a1 l1 c1, .slice a2 l2 c2, .slice a3 l3 c3, .slice a4 l4 c4, .slice (some ⟨Bp, 0, none⟩) nc nc] w fun e w' => NewpOut a1 a2 a3 a4 l1 c1 l2 c2 l3 c3 l4 c4 nc vs w e w' := by
  have hmk : ∀ w, (Instr.makeSlice 41 (.int .i64 (nc : Int)) (.int .i64 (nc : Int))).run Tryd.prog w = .ok (.slice (some ⟨w.heap.size, 0, none⟩) nc nc) (w.alloc (.cells (madeCells #[Value.slice none 0 0, Value.slice none 0 0] (nc * 2)) 43)) := by
    intro w
    obtain ⟨i1, hi1, hy0, hy1, hy2⟩ := info_parts Tryd.info43
    have := run_make (P := Tryd.prog) w 41 43 i1 _ Tryd.underlying41 hi1 hy0 .i64 .i64 (nc : Int) (nc : Int) (by omega) (by omega) (by rw [hy2]; omega) (by omega)
    rw [hy1] at this
    simpa [Value.cells] using this
  go_enter Tryd.func9, Tryd.ntmps9
  go_wp2
  go_loopw [20] (fun s20 wr => ∃ (k : Nat) (us : List Value), s20 = .int .i64 k ∧ k ≤ nc ∧ VRow wr 43 w.heap.size us ∧ us.length = 2 * nc ∧ Kept w wr [] ∧ Hid (∀ j, j < k → us.getD (2 * j) undef = vs.getD j undef ∧ us.getD (2 * j + 1) undef = .slice none 0 0)) (fun s20 _ => nc - (intOf s20).toNat)
  case atStart =>
    refine ⟨0, List.replicate (nc * 2) (.slice none 0 0), rfl, Nat.zero_le _, ?_, by simp; omega, (Kept.refl _ _).alloc _, fun j hj => absurd hj (Nat.not_lt_zero _)⟩
    unfold VRow
    rw [(MapKept.heap_alloc w _).1, ← made_two]
  case round =>
    obtain ⟨k, us, rfl, hk, hu, hul, hkk, HU⟩ := hrel
    clear hmk
    by_cases hlt : k < nc
    · obtain ⟨a, l, c, hvk⟩ := hsl k hlt
      have cv := (hkk.cell (p := ⟨Bp, k, none⟩) hv.lt (by simp)).trans (hv.cell k (by omega))
      rw [hvk] at cv
      have e0 := hu.cell (k * 2) (by omega)
      have e1 := hu.cell (k * 2 + 1) (by omega)
      have f0 := hu.frozen (k * 2)
      have f1 := hu.frozen (k * 2 + 1)
      generalize us.getD (k * 2) undef = o0 at *
      generalize us.getD (k * 2 + 1) undef = o1 at *
      have HV := hide' hvk
      clear hvk
      go_wp2
      go_roundw
      case rel =>
        refine ⟨k + 1, (us.set (k * 2) (.slice a l c)).set (k * 2 + 1) (.slice none 0 0), by go_num, by omega, (hu.set _ _).set _ _, by simpa using hul, ((hkk.setCell (Or.inr (Nat.le_refl _)) _).setCell (Or.inr (Nat.le_refl _)) _), fun j hj => ?_⟩
        by_cases e : j = k
        · subst e
          rw [show 2 * j = j * 2 by omega, vgetD_set_ne _ _ _ _ (by omega), vgetD_set_eq _ _ _ (by omega), vgetD_set_eq _ _ _ (by simp; omega)]
          exact ⟨HV.out.symm, rfl⟩
        · rw [vgetD_set_ne _ _ _ _ (by omega), vgetD_set_ne _ _ _ _ (by omega), vgetD_set_ne _ _ _ _ (by omega), vgetD_set_ne _ _ _ _ (by omega)]
          exact HU.out j (by omega)
      case measure => simp [intOf]; omega
    · have e : k = nc := by omega
      have HU' : Hid (∀ j, j < nc → us.getD (2 * j) undef = vs.getD j undef ∧ us.getD (2 * j + 1) undef = .slice none 0 0) := by rw [← e]; exact HU.out
      clear e hsl
      have hlt' := hu.lt
      go_wp2
      go_ret
      refine ⟨wr.heap.size, us, rfl, hlt', by simp, ?_, ?_, ?_, ?_, ?_, ?_, ?_, hu.kept ((Kept.refl wr []).alloc _) (by simp), hul, hkk.alloc _, HU'.out⟩
      all_goals (rw [World.cell?_alloc_new]; rfl)

end Gl
end Go.Proofs.Qxb6615024aDoor
