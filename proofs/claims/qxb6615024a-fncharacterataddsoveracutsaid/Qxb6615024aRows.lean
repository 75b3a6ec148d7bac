/-
  No cell of these rows narrows 'for every input' (looked for: loops, veiled, ifaces, maps, wideKeys, modest, calm, conditions, laid).
  DERIVED. THE GIVEN ROWS OF THIS SEAT. 3 by the template 'for every input the law returns true; each argument reads behind the call as it read before'; 0 by the template 'total and deterministic' (their statements: Qxb6615024aTotals.lean).
  GIVEN WITH THE SEED: the statements are not yours to turn. If you find one false, say at which input.
  Laid BY PROGRAM, IN A SANDBOX (cutbox-rows.mjs): the forced cells as the released guide's own fill.sh prints them over the translation 57070310abffd1f8… (all of the seat's roots in one cut). By AI agents, Wed Nov 11 2026. No macro, syntax, notation, axiom, sorry.
-/
import Derived.Test.Qxb6615024aChecked
import GoSem.Claim
import GoSem.ClaimJoined
import GoSem.ClaimMapViews
import Derived.JoinedTies
import Derived.KernelRfl
namespace Go.Proofs.Qxb6615024a
/- THE CELL 'sum', in the pinned program and in every row, IS THE sha256 OF THE DUMP (.gsa) THAT Qxb6615024aProg.lean LOADS. Nothing in Lean hashes anything: it is a label: what it is worth is what the hold of that sum in a sandbox is worth. -/
noncomputable def Try.pinned : Pinned := { name := "qxb6615024a", sum := "57070310abffd1f824cec71840d7b8f7d67140545fe013085692ee0cebd462a8", checked := Try.checked }
namespace Rows
def none {H : Type} : Left H := { results := [], args := [] }

/-- 'zzlaws_root_b1.FnReserveLeavesTheOldMapAlone': WHATEVER THE INPUT: true; the input reads as it did. -/
def fnReserveLeavesTheOldMapAloneSpec : ChangeSpec := { name := "fnReserveLeavesTheOldMapAlone", fn := fun _ => fun
  | [d1, d2, d3, d4] => { results := [.lit (.bool true)], args := [d1, d2, d3, d4] }
  | _ => none }
def fnReserveLeavesTheOldMapAloneRow : OpenClaim := { program := "qxb6615024a", sum := "57070310abffd1f824cec71840d7b8f7d67140545fe013085692ee0cebd462a8", func := "example.com/doberman/doberman/zzlaws_root_b1.FnReserveLeavesTheOldMapAlone", spec := "fnReserveLeavesTheOldMapAlone", apart := false }
def FnReserveLeavesTheOldMapAloneSaid : Prop := fnReserveLeavesTheOldMapAloneRow.holds Try.pinned (OpenSpec.ofChange fnReserveLeavesTheOldMapAloneSpec)

/-- ITS FALSE NEIGHBOUR: 'it returns false'. Refute it at one input. -/
def fnReserveLeavesTheOldMapAloneWrong : ChangeSpec := { name := "fnReserveLeavesTheOldMapAlone", fn := fun _ => fun
  | [d1, d2, d3, d4] => { results := [.lit (.bool false)], args := [d1, d2, d3, d4] }
  | _ => none }
def FnReserveLeavesTheOldMapAloneWrongFalsely : Prop := fnReserveLeavesTheOldMapAloneRow.holds Try.pinned (OpenSpec.ofChange fnReserveLeavesTheOldMapAloneWrong)

/-- 'zzlaws_root_b1.FnCharacterAtAddsOverACut': WHATEVER THE INPUT: true; the input reads as it did. -/
def fnCharacterAtAddsOverACutSpec : ChangeSpec := { name := "fnCharacterAtAddsOverACut", fn := fun _ => fun
  | [d1, d2, d3] => { results := [.lit (.bool true)], args := [d1, d2, d3] }
  | _ => none }
def fnCharacterAtAddsOverACutRow : OpenClaim := { program := "qxb6615024a", sum := "57070310abffd1f824cec71840d7b8f7d67140545fe013085692ee0cebd462a8", func := "example.com/doberman/doberman/zzlaws_root_b1.FnCharacterAtAddsOverACut", spec := "fnCharacterAtAddsOverACut", apart := false }
def FnCharacterAtAddsOverACutSaid : Prop := fnCharacterAtAddsOverACutRow.holds Try.pinned (OpenSpec.ofChange fnCharacterAtAddsOverACutSpec)

/-- ITS FALSE NEIGHBOUR: 'it returns false'. Refute it at one input. -/
def fnCharacterAtAddsOverACutWrong : ChangeSpec := { name := "fnCharacterAtAddsOverACut", fn := fun _ => fun
  | [d1, d2, d3] => { results := [.lit (.bool false)], args := [d1, d2, d3] }
  | _ => none }
def FnCharacterAtAddsOverACutWrongFalsely : Prop := fnCharacterAtAddsOverACutRow.holds Try.pinned (OpenSpec.ofChange fnCharacterAtAddsOverACutWrong)

/-- 'zzlaws_root_b1.FnCharacterAtCountsAnInsertedCharacterOnce': WHATEVER THE INPUT: true; the input reads as it did. -/
def fnCharacterAtCountsAnInsertedCharacterOnceSpec : ChangeSpec := { name := "fnCharacterAtCountsAnInsertedCharacterOnce", fn := fun _ => fun
  | [d1, d2, d3, d4] => { results := [.lit (.bool true)], args := [d1, d2, d3, d4] }
  | _ => none }
def fnCharacterAtCountsAnInsertedCharacterOnceRow : OpenClaim := { program := "qxb6615024a", sum := "57070310abffd1f824cec71840d7b8f7d67140545fe013085692ee0cebd462a8", func := "example.com/doberman/doberman/zzlaws_root_b1.FnCharacterAtCountsAnInsertedCharacterOnce", spec := "fnCharacterAtCountsAnInsertedCharacterOnce", apart := false }
def FnCharacterAtCountsAnInsertedCharacterOnceSaid : Prop := fnCharacterAtCountsAnInsertedCharacterOnceRow.holds Try.pinned (OpenSpec.ofChange fnCharacterAtCountsAnInsertedCharacterOnceSpec)

/-- ITS FALSE NEIGHBOUR: 'it returns false'. Refute it at one input. -/
def fnCharacterAtCountsAnInsertedCharacterOnceWrong : ChangeSpec := { name := "fnCharacterAtCountsAnInsertedCharacterOnce", fn := fun _ => fun
  | [d1, d2, d3, d4] => { results := [.lit (.bool false)], args := [d1, d2, d3, d4] }
  | _ => none }
def FnCharacterAtCountsAnInsertedCharacterOnceWrongFalsely : Prop := fnCharacterAtCountsAnInsertedCharacterOnceRow.holds Try.pinned (OpenSpec.ofChange fnCharacterAtCountsAnInsertedCharacterOnceWrong)

end Rows
end Go.Proofs.Qxb6615024a
