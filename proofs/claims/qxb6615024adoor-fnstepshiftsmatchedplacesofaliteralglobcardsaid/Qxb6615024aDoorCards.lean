/-
  DERIVED. GIVEN WITH THE SEED: THE CARDS: each row of Qxb6615024aDoorRows.lean that lists a variable, with what it lists TIED to the program's text (the seventh form; the later family's looks); each row that meets fmt, with fmt's text TOLD by the authors' own Lean function (tested against real Go, not proved from fmt's source: count such statements apart). THE CARD IS WHAT COUNTS. Prove the row's statement (the work); the ties are given (Qxb6615024aDoorTie.lean); close each card by the builder's one call (the guide's Derived/Test/ToyasCard.lean, 'card_holds'). Laid BY PROGRAM, IN A SANDBOX (cutbox-door.mjs). By AI agents, Wed Nov 11 2026. No macro, syntax, notation, axiom, sorry.
-/
import Derived.Test.Qxb6615024aDoorRows
import GoSem.ClaimSeven
namespace Go.Proofs.Qxb6615024aDoor
namespace Rows

/-- THE TIED CARD OF 'zzlaws_root_b1.FnStepRunMatchesExactlyThePatternText'. -/
def fnStepRunMatchesExactlyThePatternTextCard : Claim7 := { stood := { row := fnStepRunMatchesExactlyThePatternTextRow, standIns := [], harness := (true, "e9f541e6d41d22697438c0b597ec88dc06c6ab6269d19038b07ecd6eec5a930a"), looks := false }, kinds := [], alts := [], laidByText := true, laidKinds := [.data], laidTests := true, laidLooks := .later }
def FnStepRunMatchesExactlyThePatternTextCardSaid : Prop := Claim7.holds Tryd.pinned (.plain (OpenSpec.ofChange fnStepRunMatchesExactlyThePatternTextSpec)) fnStepRunMatchesExactlyThePatternTextCard

/-- THE TIED CARD OF 'zzlaws_root_b1.FnStepShiftsMatchedPlacesOfALiteralGlob'. -/
def fnStepShiftsMatchedPlacesOfALiteralGlobCard : Claim7 := { stood := { row := fnStepShiftsMatchedPlacesOfALiteralGlobRow, standIns := [], harness := (true, "e9f541e6d41d22697438c0b597ec88dc06c6ab6269d19038b07ecd6eec5a930a"), looks := false }, kinds := [], alts := [], laidByText := true, laidKinds := [.data], laidTests := true, laidLooks := .later }
def FnStepShiftsMatchedPlacesOfALiteralGlobCardSaid : Prop := Claim7.holds Tryd.pinned (.plain (OpenSpec.ofChange fnStepShiftsMatchedPlacesOfALiteralGlobSpec)) fnStepShiftsMatchedPlacesOfALiteralGlobCard
end Rows
end Go.Proofs.Qxb6615024aDoor
