/-
  THE CLOSED FACTS FOR A WALK OVER fmt's STOPPED FRONTS, for this program's three formats, typed after the kit's worked examples; THE WALKS of fmt.Errorf and evalError: whatever fmt's texts, an error comes back.
-/
import Derived.Test.Qxb6615471aFmtChecked
import Derived.Test.Qxb6615471aFmtMem
import Derived.Stop.CallBack
import Derived.Stop.IfaceNil
import GoSem.ClaimData
import Derived.WalkKit
import Derived.WalkSpells
namespace Go.Proofs.Qxb6615471aFmt
open Go.RowKit Go.Extern.Stop Go.Stop Go.Extern
set_option linter.unusedVariables false
namespace Fl

@[go_sem] theorem call21 (args : Array Value) (w : World) : (callFunc 21 args).run Tryf.prog w = ((FmtStop.sprintf #[9, 67] #[9] args).run Tryf.prog w).andThen fun v w' => .ok (.value v) w' :=
  run_callFunc_extern Tryf.func21 (by kernel_rfl) (by kernel_rfl) (by kernel_rfl) (by kernel_rfl) args w
@[go_sem] theorem call25 (args : Array Value) (w : World) : (callFunc 25 args).run Tryf.prog w = ((FmtStop.errorf #[9, 67] #[34] args).run Tryf.prog w).andThen fun v w' => .ok (.value v) w' :=
  run_callFunc_extern Tryf.func25 (by kernel_rfl) (by kernel_rfl) (by kernel_rfl) (by kernel_rfl) args w
@[go_sem] theorem guard (name : String) (w : World) : (FmtStop.guard name).run Tryf.prog w = .ok () w := by kernel_rfl

@[go_sem] theorem fmt0 : FmtStop.printed? ⟨#[115, 117, 109, 40, 37, 115, 41, 32, 97, 100, 100, 115, 32, 117, 112, 32, 110, 117, 109, 98, 101, 114, 115, 44, 32, 97, 110, 100, 32, 97, 110, 32, 101, 118, 101, 110, 116, 39, 115, 32, 37, 115, 32, 105, 115, 32, 97, 110, 111, 116, 104, 101, 114, 32, 118, 97, 108, 117, 101]⟩ 2 = some [(0, 115, false), (1, 115, false)] := by kernel_rfl
@[go_sem] theorem fmt0r (w : World) : (FmtDoors.printed ⟨#[115, 117, 109, 40, 37, 115, 41, 32, 97, 100, 100, 115, 32, 117, 112, 32, 110, 117, 109, 98, 101, 114, 115, 44, 32, 97, 110, 100, 32, 97, 110, 32, 101, 118, 101, 110, 116, 39, 115, 32, 37, 115, 32, 105, 115, 32, 97, 110, 111, 116, 104, 101, 114, 32, 118, 97, 108, 117, 101]⟩ 2).run Tryf.prog w = .ok [(0, 115, false), (1, 115, false)] w := by kernel_rfl
@[go_sem] theorem fmt1 : FmtStop.printed? ⟨#[115, 117, 109, 40, 37, 115, 41, 32, 111, 118, 101, 114, 102, 108, 111, 119, 115, 32, 97, 32, 54, 52, 45, 98, 105, 116, 32, 102, 108, 111, 97, 116]⟩ 1 = some [(0, 115, false)] := by kernel_rfl
@[go_sem] theorem fmt1r (w : World) : (FmtDoors.printed ⟨#[115, 117, 109, 40, 37, 115, 41, 32, 111, 118, 101, 114, 102, 108, 111, 119, 115, 32, 97, 32, 54, 52, 45, 98, 105, 116, 32, 102, 108, 111, 97, 116]⟩ 1).run Tryf.prog w = .ok [(0, 115, false)] w := by kernel_rfl
@[go_sem] theorem fmt2 : FmtStop.printed? ⟨#[112, 111, 108, 105, 99, 121, 32, 108, 105, 110, 101, 32, 37, 100, 58, 32, 37, 115]⟩ 2 = some [(0, 100, false), (1, 115, false)] := by kernel_rfl
@[go_sem] theorem fmt2r (w : World) : (FmtDoors.printed ⟨#[112, 111, 108, 105, 99, 121, 32, 108, 105, 110, 101, 32, 37, 100, 58, 32, 37, 115]⟩ 2).run Tryf.prog w = .ok [(0, 100, false), (1, 115, false)] w := by kernel_rfl

def shape9 : List UInt8 := [12, 6, 0, 0, 0, 0, 0, 0, 0, 115, 116, 114, 105, 110, 103]
@[go_sem] theorem op9_115 (name : String) (x : ByteArray) (w : World) : (FmtStop.operand name false 115 false (.iface 9 (.string x))).run Tryf.prog w = .ok (shape9, FmtStop.pack x.data.toList) w := by kernel_rfl
@[go_sem] theorem op9_115w (name : String) (x : ByteArray) (w : World) : (FmtStop.operand name true 115 false (.iface 9 (.string x))).run Tryf.prog w = .ok (shape9, FmtStop.pack x.data.toList) w := by kernel_rfl
@[go_sem] theorem strict9 (name : String) (x : ByteArray) (w : World) : (FmtStop.strict name (.iface 9 (.string x))).run Tryf.prog w = .ok (shape9, FmtStop.pack x.data.toList) w := by kernel_rfl
def shape3 : List UInt8 := [5, 3, 0, 0, 0, 0, 0, 0, 0, 105, 110, 116]
@[go_sem] theorem op3_100 (name : String) (x : Int) (w : World) : (FmtStop.operand name false 100 false (.iface 3 (.int .i64 x))).run Tryf.prog w = .ok (shape3, Go.Extern.Stop.digits 8 (x % 2 ^ 64).toNat) w := by kernel_rfl
@[go_sem] theorem op3_100w (name : String) (x : Int) (w : World) : (FmtStop.operand name true 100 false (.iface 3 (.int .i64 x))).run Tryf.prog w = .ok (shape3, Go.Extern.Stop.digits 8 (x % 2 ^ 64).toNat) w := by kernel_rfl
@[go_sem] theorem strict3 (name : String) (x : Int) (w : World) : (FmtStop.strict name (.iface 3 (.int .i64 x))).run Tryf.prog w = .ok (shape3, Go.Extern.Stop.digits 8 (x % 2 ^ 64).toNat) w := by kernel_rfl
@[go_sem] theorem ptr79 (w : World) : (FmtStop.ptrTo "errors.errorString").run Tryf.prog w = .ok 79 w := by kernel_rfl
@[go_sem] theorem elem79 (w : World) : (elemOf 79).run Tryf.prog w = .ok 81 w := by kernel_rfl
@[go_sem] theorem isError79 (w : World) : (FmtDoors.textMethod 79 "Error").run Tryf.prog w = .ok true w := by kernel_rfl

/-- an error came back, and nothing that was there has turned -/
def ErrOut (w : World) (e : Ending) (w' : World) : Prop := ∃ p, e = .returned (.iface 79 (.pointer (some p))) ∧ Kept w w' []

set_option maxHeartbeats 1600000 in
theorem err_two (F : Interp) (nm : ByteArray) (b : Nat) (w : World) (hF : F.answers w.tape) (h0 : w.cell? ⟨b, 0, none⟩ = some (.iface 9 (.string nm))) (h1 : w.cell? ⟨b, 1, none⟩ = some (.iface 9 (.string nm))) :
    Calls Tryf.prog 17 #[.int .i64 1, .string ⟨#[115, 117, 109, 40, 37, 115, 41, 32, 97, 100, 100, 115, 32, 117, 112, 32, 110, 117, 109, 98, 101, 114, 115, 44, 32, 97, 110, 100, 32, 97, 110, 32, 101, 118, 101, 110, 116, 39, 115, 32, 37, 115, 32, 105, 115, 32, 97, 110, 111, 116, 104, 101, 114, 32, 118, 97, 108, 117, 101]⟩, .slice (some ⟨b, 0, none⟩) 2 2] w (ErrOut w) := by
  have hF' := answers_open hF
  go_enter Tryf.func17, Tryf.ntmps17
  go_wp2
  go_ret
  exact ⟨_, rfl, ((((Kept.refl w []).alloc _).alloc _).drew).drew⟩

set_option maxHeartbeats 1600000 in
theorem err_one (F : Interp) (nm : ByteArray) (b : Nat) (w : World) (hF : F.answers w.tape) (h0 : w.cell? ⟨b, 0, none⟩ = some (.iface 9 (.string nm))) :
    Calls Tryf.prog 17 #[.int .i64 1, .string ⟨#[115, 117, 109, 40, 37, 115, 41, 32, 111, 118, 101, 114, 102, 108, 111, 119, 115, 32, 97, 32, 54, 52, 45, 98, 105, 116, 32, 102, 108, 111, 97, 116]⟩, .slice (some ⟨b, 0, none⟩) 1 1] w (ErrOut w) := by
  have hF' := answers_open hF
  go_enter Tryf.func17, Tryf.ntmps17
  go_wp2
  go_ret
  exact ⟨_, rfl, ((((Kept.refl w []).alloc _).alloc _).drew).drew⟩

end Fl
end Go.Proofs.Qxb6615471aFmt
