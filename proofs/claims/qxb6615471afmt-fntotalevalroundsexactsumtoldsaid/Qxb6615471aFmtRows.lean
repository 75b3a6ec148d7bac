/-
  No cell of these rows narrows 'for every input' (looked for: loops, veiled, ifaces, maps, wideKeys, modest, calm, conditions, laid).
  DERIVED. THE GIVEN ROWS OF THIS SEAT. 2 by the template 'for every input the law returns true; each argument reads behind the call as it read before'; 0 by the template 'total and deterministic' (their statements: Qxb6615471aFmtTotals.lean).
  GIVEN WITH THE SEED: the statements are not yours to turn. If you find one false, say at which input.
  Laid BY PROGRAM, IN A SANDBOX (cutbox-rows.mjs): the forced cells as the released guide's own fill.sh prints them over the translation 021541a98fa6872b… (all of the seat's roots in one cut). By AI agents, Wed Nov 11 2026. No macro, syntax, notation, axiom, sorry.
-/
import Derived.Test.Qxb6615471aFmtChecked
import GoSem.Claim
import GoSem.ClaimJoined
import GoSem.ClaimMapViews
import Derived.JoinedTies
import Derived.KernelRfl
namespace Go.Proofs.Qxb6615471aFmt
/- THE CELL 'sum', in the pinned program and in every row, IS THE sha256 OF THE DUMP (.gsa) THAT Qxb6615471aFmtProg.lean LOADS. Nothing in Lean hashes anything: it is a label: what it is worth is what the hold of that sum in a sandbox is worth. -/
noncomputable def Tryf.pinned : Pinned := { name := "qxb6615471afmt", sum := "021541a98fa6872bb0c77cb9ad55d20211b05250136e97fd93a8f0c735258529", checked := Tryf.checked }
namespace Rows
def none {H : Type} : Left H := { results := [], args := [] }

/-- 'zzlaws_root_b1.FnTotalEvalRoundsExactSum': WHATEVER THE INPUT: true; the input reads as it did. -/
def fnTotalEvalRoundsExactSumSpec : ChangeSpec := { name := "fnTotalEvalRoundsExactSum", fn := fun _ => fun
  | [d1, d2, d3, d4] => { results := [.lit (.bool true)], args := [d1, d2, d3, d4] }
  | _ => none }
def fnTotalEvalRoundsExactSumRow : OpenClaim := { program := "qxb6615471afmt", sum := "021541a98fa6872bb0c77cb9ad55d20211b05250136e97fd93a8f0c735258529", func := "example.com/mediation/mediation/zzlaws_root_b1.FnTotalEvalRoundsExactSum", spec := "fnTotalEvalRoundsExactSum", stops := ["fmt.Sprintf", "fmt.errorf"], inPlace := ["fmt.Sprintf", "fmt.errorf", "math.Float64bits", "math.Float64frombits"], unfollowed := true, recurses := true, apart := false }
/-- NO THEOREM (fmt's text is open here; it may be false): for the released tool's asking of the row's closed facts alone. THE STATEMENT IS 'FnTotalEvalRoundsExactSumToldSaid' (Qxb6615471aFmtCards.lean). -/
def FnTotalEvalRoundsExactSumFormAsk : Prop := fnTotalEvalRoundsExactSumRow.holds Tryf.pinned (OpenSpec.ofChange fnTotalEvalRoundsExactSumSpec)

/-- ITS FALSE NEIGHBOUR: 'it returns false'. Refute it at one input. -/
def fnTotalEvalRoundsExactSumWrong : ChangeSpec := { name := "fnTotalEvalRoundsExactSum", fn := fun _ => fun
  | [d1, d2, d3, d4] => { results := [.lit (.bool false)], args := [d1, d2, d3, d4] }
  | _ => none }
def FnTotalEvalRoundsExactSumWrongFormAsk : Prop := fnTotalEvalRoundsExactSumRow.holds Tryf.pinned (OpenSpec.ofChange fnTotalEvalRoundsExactSumWrong)

/-- 'zzlaws_root_b1.FnTotalEvalNegationIsExact': WHATEVER THE INPUT: true; the input reads as it did. -/
def fnTotalEvalNegationIsExactSpec : ChangeSpec := { name := "fnTotalEvalNegationIsExact", fn := fun _ => fun
  | [d1, d2] => { results := [.lit (.bool true)], args := [d1, d2] }
  | _ => none }
def fnTotalEvalNegationIsExactRow : OpenClaim := { program := "qxb6615471afmt", sum := "021541a98fa6872bb0c77cb9ad55d20211b05250136e97fd93a8f0c735258529", func := "example.com/mediation/mediation/zzlaws_root_b1.FnTotalEvalNegationIsExact", spec := "fnTotalEvalNegationIsExact", stops := ["fmt.Sprintf", "fmt.errorf"], inPlace := ["fmt.Sprintf", "fmt.errorf", "math.Float64bits", "math.Float64frombits"], unfollowed := true, recurses := true, apart := false }
/-- NO THEOREM (fmt's text is open here; it may be false): for the released tool's asking of the row's closed facts alone. THE STATEMENT IS 'FnTotalEvalNegationIsExactToldSaid' (Qxb6615471aFmtCards.lean). -/
def FnTotalEvalNegationIsExactFormAsk : Prop := fnTotalEvalNegationIsExactRow.holds Tryf.pinned (OpenSpec.ofChange fnTotalEvalNegationIsExactSpec)

/-- ITS FALSE NEIGHBOUR: 'it returns false'. Refute it at one input. -/
def fnTotalEvalNegationIsExactWrong : ChangeSpec := { name := "fnTotalEvalNegationIsExact", fn := fun _ => fun
  | [d1, d2] => { results := [.lit (.bool false)], args := [d1, d2] }
  | _ => none }
def FnTotalEvalNegationIsExactWrongFormAsk : Prop := fnTotalEvalNegationIsExactRow.holds Tryf.pinned (OpenSpec.ofChange fnTotalEvalNegationIsExactWrong)

end Rows
end Go.Proofs.Qxb6615471aFmt
