/-
  THE LAW's EARLY RETURNS: a length too great, or a set that does not fit the pattern.
-/
import Derived.Test.Qxb6615024aDoorLawA
namespace Go.Proofs.Qxb6615024aDoor
open Go.RowKit
set_option linter.unusedVariables false
namespace Gl

set_option maxHeartbeats 4000000 in
set_option maxRecDepth 100000 in
theorem law_early (a0 a1 a4 a7 : Option Addr) (m c0 n1 c1 n4 c4 n7 c7 : Nat) (F l F2 l2 c : Int) (w : World) (h : ¬ (m ≤ 4096 ∧ n1 = m / 64 + 1 ∧ n4 = m / 64 + 1 ∧ n7 = m / 64 + 1)) :
    Calls Tryd.prog 4 #[.slice a0 m c0, .slice a1 n1 c1, .int .i64 F, .int .i64 l, .slice a4 n4 c4, .int .i64 F2, .int .i64 l2, .slice a7 n7 c7, .int .i32 c] w fun e w' => e = .returned (.bool true) ∧ w' = w := by
  have H := hide h
  clear h
  go_enter Tryd.func4, Tryd.ntmps4
  go_wp2_with fail
  refine (bytes_any a0 _ _ _ m c0 n1 c1 n4 c4 n7 c7 F l F2 l2 c w).mono ?_
  rintro e w' ⟨⟨t, rfl⟩, hw⟩
  subst w'
  cases t
  · go_wp2
    go_ret
    exact ⟨rfl, rfl⟩
  by_cases h0 : (4096 : Int) < m
  · go_wp2
    go_ret
    exact ⟨rfl, rfl⟩
  by_cases h1 : (4096 : Int) < n1
  · go_wp2
    go_ret
    exact ⟨rfl, rfl⟩
  by_cases h4 : (4096 : Int) < n4
  · go_wp2
    go_ret
    exact ⟨rfl, rfl⟩
  by_cases h7 : (4096 : Int) < n7
  · go_wp2
    go_ret
    exact ⟨rfl, rfl⟩
  obtain ⟨W, hW⟩ : ∃ W : Nat, W = m / 64 + 1 := ⟨_, rfl⟩
  have hW2 : ((m : Int) + 1 + 63) / 64 = (W : Int) := by omega
  go_upto_region 7 with fail
  rw [hW2]
  have HW := hide hW
  have Hm := hide h0
  clear hW hW2 h0 h1 h4 h7
  by_cases e1 : ((n1 : Int) != (W : Int)) = true
  · go_wp2
    go_ret
    exact ⟨rfl, rfl⟩
  have e1' : ((n1 : Int) != (W : Int)) = false := by simpa using e1
  by_cases e4 : ((n4 : Int) != (W : Int)) = true
  · go_wp2
    go_ret
    exact ⟨rfl, rfl⟩
  have e4' : ((n4 : Int) != (W : Int)) = false := by simpa using e4
  by_cases e7 : ((n7 : Int) != (W : Int)) = true
  · go_wp2
    go_ret
    exact ⟨rfl, rfl⟩
  exfalso
  simp at e1 e4 e7
  have := HW.out
  have := Hm.out
  exact H.out ⟨by omega, by omega, by omega, by omega⟩

end Gl
end Go.Proofs.Qxb6615024aDoor
