/-
  THE WALKS of ZZstep and of zzBytes.
-/
import Derived.Test.Qxb6615024aDoorStp
import Derived.Test.Qxb6615024aDoorPlain
import Derived.Test.Qxb6615024aDoorMake
import Derived.Test.Qxb6615024aDoorChars
namespace Go.Proofs.Qxb6615024aDoor
open Go.RowKit
set_option linter.unusedVariables false
namespace Gl

def BOut (e : Ending) : Prop := ∃ t : Bool, e = .returned (.bool t)
theorem bout (t : Bool) : BOut (.returned (.bool t)) := ⟨t, rfl⟩

set_option maxHeartbeats 1600000 in
set_option maxRecDepth 100000 in
theorem zstep_any (g s x m n : Nat) (c : Int) (w : World) (Q : Ending → World → Prop)
    (h : Calls Tryd.prog 19 #[.pointer (some ⟨g, 0, none⟩), .pointer (some ⟨s, 0, none⟩), .pointer (some ⟨x, 0, none⟩), .slice (some ⟨m, 0, none⟩) n n, .int .i32 c] w fun e w' => ∃ r : Int, e = .returned (.int .i64 r) ∧ Q (.returned (.int .i64 r)) w') :
    Calls Tryd.prog 11 #[.pointer (some ⟨g, 0, none⟩), .pointer (some ⟨s, 0, none⟩), .pointer (some ⟨x, 0, none⟩), .slice (some ⟨m, 0, none⟩) n n, .int .i32 c] w fun e w' => ∃ r : Int, e = .returned (.int .i64 r) ∧ Q (.returned (.int .i64 r)) w' := by
  go_enter Tryd.func11, Tryd.ntmps11
  go_wp2_with fail
  refine h.mono ?_
  rintro e w' ⟨r, rfl, hq⟩
  go_wp2
  go_ret
  exact ⟨r, rfl, hq⟩

set_option maxHeartbeats 1600000 in
set_option maxRecDepth 100000 in
theorem bytes_any (a0 a1 a4 a7 : Option Addr) (n0 c0 n1 c1 n4 c4 n7 c7 : Nat) (i2 i3 i5 i6 c : Int) (w : World) :
    Calls Tryd.prog 16 #[.slice a0 n0 c0, .slice a1 n1 c1, .int .i64 i2, .int .i64 i3, .slice a4 n4 c4, .int .i64 i5, .int .i64 i6, .slice a7 n7 c7, .int .i32 c] w fun e w' => BOut e ∧ w' = w := by
  by_cases h0 : (1048576 : Int) < n0
  · go_enter Tryd.func16, Tryd.ntmps16
    go_wp2
    go_ret
    exact ⟨bout _, rfl⟩
  by_cases h1 : (1048576 : Int) < n1
  · go_enter Tryd.func16, Tryd.ntmps16
    go_wp2
    go_ret
    exact ⟨bout _, rfl⟩
  by_cases h2 : (1048576 : Int) < n0 + n1
  · go_enter Tryd.func16, Tryd.ntmps16
    go_wp2
    go_ret
    exact ⟨bout _, rfl⟩
  by_cases h3 : (1048576 : Int) < n4
  · go_enter Tryd.func16, Tryd.ntmps16
    go_wp2
    go_ret
    exact ⟨bout _, rfl⟩
  by_cases h4 : (1048576 : Int) < n0 + n1 + n4
  · go_enter Tryd.func16, Tryd.ntmps16
    go_wp2
    go_ret
    exact ⟨bout _, rfl⟩
  by_cases h5 : (1048576 : Int) < n7
  · go_enter Tryd.func16, Tryd.ntmps16
    go_wp2
    go_ret
    exact ⟨bout _, rfl⟩
  by_cases h6 : (1048576 : Int) < n0 + n1 + n4 + n7
  · go_enter Tryd.func16, Tryd.ntmps16
    go_wp2
    go_ret
    exact ⟨bout _, rfl⟩
  go_enter Tryd.func16, Tryd.ntmps16
  go_wp2
  go_ret
  exact ⟨bout _, rfl⟩

end Gl
end Go.Proofs.Qxb6615024aDoor
