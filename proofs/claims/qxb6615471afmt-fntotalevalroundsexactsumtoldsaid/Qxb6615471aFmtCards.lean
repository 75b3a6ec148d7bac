/-
  DERIVED. GIVEN WITH THE SEED: THE CARDS: each row of Qxb6615471aFmtRows.lean that lists a variable, with what it lists TIED to the program's text (the seventh form; the later family's looks); each row that meets fmt, with fmt's text TOLD by the authors' own Lean function (tested against real Go, not proved from fmt's source: count such statements apart). THE CARD IS WHAT COUNTS. Prove the row's statement (the work); the ties are given (Qxb6615471aFmtTie.lean); close each card by the builder's one call (the guide's Derived/Test/ToyasCard.lean, 'card_holds'). Laid BY PROGRAM, IN A SANDBOX (cutbox-door.mjs). By AI agents, Wed Nov 11 2026. No macro, syntax, notation, axiom, sorry.
-/
import Derived.Test.Qxb6615471aFmtRows
import GoSem.ClaimSeven
namespace Go.Proofs.Qxb6615471aFmt
namespace Rows

/-- THE TOLD CARD OF 'zzlaws_root_b1.FnTotalEvalRoundsExactSum'. -/
def fnTotalEvalRoundsExactSumCard : Claim7 := { stood := { row := fnTotalEvalRoundsExactSumRow, standIns := [], harness := (true, "f557b464607d71b6936f76318394838ac2a0db20c765cb34706737f550863493"), looks := false }, told := true, goes := false }
def FnTotalEvalRoundsExactSumToldSaid : Prop := Claim7.holds Tryf.pinned (.plain (OpenSpec.ofChange fnTotalEvalRoundsExactSumSpec)) fnTotalEvalRoundsExactSumCard
/-- ITS FALSE NEIGHBOUR. Refute it at one input. -/
def FnTotalEvalRoundsExactSumToldWrongFalsely : Prop := Claim7.holds Tryf.pinned (.plain (OpenSpec.ofChange fnTotalEvalRoundsExactSumWrong)) fnTotalEvalRoundsExactSumCard

/-- THE TOLD CARD OF 'zzlaws_root_b1.FnTotalEvalNegationIsExact'. -/
def fnTotalEvalNegationIsExactCard : Claim7 := { stood := { row := fnTotalEvalNegationIsExactRow, standIns := [], harness := (true, "f557b464607d71b6936f76318394838ac2a0db20c765cb34706737f550863493"), looks := false }, told := true, goes := false }
def FnTotalEvalNegationIsExactToldSaid : Prop := Claim7.holds Tryf.pinned (.plain (OpenSpec.ofChange fnTotalEvalNegationIsExactSpec)) fnTotalEvalNegationIsExactCard
/-- ITS FALSE NEIGHBOUR. Refute it at one input. -/
def FnTotalEvalNegationIsExactToldWrongFalsely : Prop := Claim7.holds Tryf.pinned (.plain (OpenSpec.ofChange fnTotalEvalNegationIsExactWrong)) fnTotalEvalNegationIsExactCard
end Rows
end Go.Proofs.Qxb6615471aFmt
