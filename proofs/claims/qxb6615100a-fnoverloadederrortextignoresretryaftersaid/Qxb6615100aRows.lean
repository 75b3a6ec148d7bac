/-
  No cell of these rows narrows 'for every input' (looked for: loops, veiled, ifaces, maps, wideKeys, modest, calm, conditions, laid).
  DERIVED. THE GIVEN ROWS OF THIS SEAT. 1 by the template 'for every input the law returns true; each argument reads behind the call as it read before'; 0 by the template 'total and deterministic' (their statements: Qxb6615100aTotals.lean).
  GIVEN WITH THE SEED: the statements are not yours to turn. If you find one false, say at which input.
  Laid BY PROGRAM, IN A SANDBOX (cutbox-rows.mjs): the forced cells as the released guide's own fill.sh prints them over the translation b2068d9c9a8e4c5e… (all of the seat's roots in one cut). By AI agents, Wed Nov 11 2026. No macro, syntax, notation, axiom, sorry.
-/
import Derived.Test.Qxb6615100aChecked
import GoSem.Claim
import GoSem.ClaimJoined
import GoSem.ClaimMapViews
import Derived.JoinedTies
import Derived.KernelRfl
namespace Go.Proofs.Qxb6615100a
/- THE CELL 'sum', in the pinned program and in every row, IS THE sha256 OF THE DUMP (.gsa) THAT Qxb6615100aProg.lean LOADS. Nothing in Lean hashes anything: it is a label: what it is worth is what the hold of that sum in a sandbox is worth. -/
noncomputable def Try.pinned : Pinned := { name := "qxb6615100a", sum := "b2068d9c9a8e4c5e1cf560167ef5c08127ea24dfa35e63ea0b9e92abe4829361", checked := Try.checked }
namespace Rows
def none {H : Type} : Left H := { results := [], args := [] }

/-- 'zzlaws_internal_ctlog_b1.FnOverloadedErrorTextIgnoresRetryAfter': WHATEVER THE INPUT: true; the input reads as it did. -/
def fnOverloadedErrorTextIgnoresRetryAfterSpec : ChangeSpec := { name := "fnOverloadedErrorTextIgnoresRetryAfter", fn := fun _ => fun
  | [d1, d2] => { results := [.lit (.bool true)], args := [d1, d2] }
  | _ => none }
def fnOverloadedErrorTextIgnoresRetryAfterRow : OpenClaim := { program := "qxb6615100a", sum := "b2068d9c9a8e4c5e1cf560167ef5c08127ea24dfa35e63ea0b9e92abe4829361", func := "example.com/clearleaf/clearleaf/zzlaws_internal_ctlog_b1.FnOverloadedErrorTextIgnoresRetryAfter", spec := "fnOverloadedErrorTextIgnoresRetryAfter", apart := false }
def FnOverloadedErrorTextIgnoresRetryAfterSaid : Prop := fnOverloadedErrorTextIgnoresRetryAfterRow.holds Try.pinned (OpenSpec.ofChange fnOverloadedErrorTextIgnoresRetryAfterSpec)

/-- ITS FALSE NEIGHBOUR: 'it returns false'. Refute it at one input. -/
def fnOverloadedErrorTextIgnoresRetryAfterWrong : ChangeSpec := { name := "fnOverloadedErrorTextIgnoresRetryAfter", fn := fun _ => fun
  | [d1, d2] => { results := [.lit (.bool false)], args := [d1, d2] }
  | _ => none }
def FnOverloadedErrorTextIgnoresRetryAfterWrongFalsely : Prop := fnOverloadedErrorTextIgnoresRetryAfterRow.holds Try.pinned (OpenSpec.ofChange fnOverloadedErrorTextIgnoresRetryAfterWrong)

end Rows
end Go.Proofs.Qxb6615100a
