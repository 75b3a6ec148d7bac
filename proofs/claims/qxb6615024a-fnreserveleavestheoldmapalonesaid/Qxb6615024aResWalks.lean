/-
  THE WALKS of 'FnReserveLeavesTheOldMapAlone': the callees beside zzHashMap.
-/
import Derived.Test.Qxb6615024aMapWalks
import Derived.WalkKit
import Derived.WalkSpells
import Derived.Maps.OwnSet
namespace Go.Proofs.Qxb6615024a
open Go.RowKit

set_option linter.unusedVariables false
namespace Res

theorem bytes_yes (v0 v1 : Option Addr) (len0 cap0 len1 cap1 : Nat) (a2 a3 : Int) (w : World) (h : len0 + len1 ≤ 1048576) :
    Calls Try.prog 6 #[.slice v0 len0 cap0, .slice v1 len1 cap1, .int .u64 a2, .int .i64 a3] w fun e w' => e = .returned (.bool true) ∧ w' = w := by
  go_enter Try.func6, Try.ntmps6
  go_wp2
  go_ret
  exact ⟨rfl, rfl⟩

theorem bytes_no (v0 v1 : Option Addr) (len0 cap0 len1 cap1 : Nat) (a2 a3 : Int) (w : World) (h0 : len0 ≤ maxLen) (h1 : len1 ≤ maxLen) (h : 1048576 < len0 + len1) :
    Calls Try.prog 6 #[.slice v0 len0 cap0, .slice v1 len1 cap1, .int .u64 a2, .int .i64 a3] w fun e w' => e = .returned (.bool false) ∧ w' = w := by
  unfold maxLen at h0 h1
  by_cases g0 : 1048576 < len0
  · go_enter Try.func6, Try.ntmps6
    go_wp2
    go_ret
    exact ⟨rfl, rfl⟩
  · by_cases g1 : 1048576 < len1
    all_goals
      go_enter Try.func6, Try.ntmps6
      go_wp2
      go_ret
      exact ⟨rfl, rfl⟩

theorem new_any (m : Option Nat) (w : World) :
    Calls Try.prog 8 #[.map m, .map none] w fun e w' => e = .returned (.pointer (some ⟨w.heap.size, 0, none⟩)) ∧ w' = w.alloc (.cells #[.map m, .map none] 40) := by
  go_enter Try.func8, Try.ntmps8
  go_wp2
  go_ret
  exact ⟨rfl, rfl⟩

theorem res_any (b : Nat) (m : Option Nat) (n : Int) (w : World) (hc : w.cell? ⟨b, 0, none⟩ = some (.map m)) (hf : w.frozen? ⟨b, 0, none⟩ = false) (hb : b < w.heap.size) :
    Calls Try.prog 16 #[.pointer (some ⟨b, 0, none⟩), .int .i64 n] w fun e w' => e = .returned (.tuple #[]) ∧ w' = (w.setCell ⟨b, 0, none⟩ (.map (some w.heap.size))).alloc (.map #[] 0) := by
  have hmh : ∀ w, (Instr.makeMap 26 (some (.int .i64 n))).run Try.prog w = .ok (.map (some w.heap.size)) (w.alloc (.map #[] 0)) := fun w => by
    kernel_rfl
  go_enter Try.func16, Try.ntmps16
  go_wp2
  go_end0
  exact ⟨rfl, rfl⟩

theorem zres_any (b : Nat) (m : Option Nat) (n : Int) (w : World) (hc : w.cell? ⟨b, 0, none⟩ = some (.map m)) (hf : w.frozen? ⟨b, 0, none⟩ = false) (hb : b < w.heap.size) :
    Calls Try.prog 9 #[.pointer (some ⟨b, 0, none⟩), .int .i64 n] w fun e w' => e = .returned (.tuple #[]) ∧ w' = (w.setCell ⟨b, 0, none⟩ (.map (some w.heap.size))).alloc (.map #[] 0) := by
  go_enter Try.func9, Try.ntmps9
  go_wp2_with (go_at_call 16; refine (res_any b m n w hc hf hb).mono ?_; rintro e w' ⟨rfl, rfl⟩)
  go_end0
  exact ⟨rfl, rfl⟩

theorem by_any (b : Nat) (v : Value) (w : World) (hc : w.cell? ⟨b, 0, none⟩ = some v) :
    Calls Try.prog 10 #[.pointer (some ⟨b, 0, none⟩)] w fun e w' => e = .returned v ∧ w' = w := by
  go_enter Try.func10, Try.ntmps10
  go_wp2
  go_ret
  exact ⟨rfl, rfl⟩

theorem grown_of_below {w w' : World} (h : Below w.heap.size w w') : w.grownBy w' none := ⟨h.os, h.tape, h.output, h.size, fun i hi _ => h.block i hi⟩

/-- ZZnewLineHashes, its world behind a name -/
theorem new_said (m : Option Nat) (w : World) :
    Calls Try.prog 8 #[.map m, .map none] w fun e w' => e = .returned (.pointer (some ⟨w.heap.size, 0, none⟩)) ∧ w'.cell? ⟨w.heap.size, 0, none⟩ = some (.map m) ∧ w'.frozen? ⟨w.heap.size, 0, none⟩ = false ∧ w.heap.size < w'.heap.size ∧ Below w.heap.size w w' := by
  refine (new_any m w).mono fun e w' ⟨he, hw⟩ => ?_
  subst hw
  exact ⟨he, by simp [go_sem], by simp [go_sem], by simp, (Below.refl _ _).alloc (Nat.le_refl _) _⟩

/-- ZZreserve, its world behind a name: the field leads to a new map that holds nothing; nothing else has turned -/
theorem zres_said (b : Nat) (m : Option Nat) (n : Int) (w : World) (hc : w.cell? ⟨b, 0, none⟩ = some (.map m)) (hf : w.frozen? ⟨b, 0, none⟩ = false) (hb : b < w.heap.size) :
    Calls Try.prog 9 #[.pointer (some ⟨b, 0, none⟩), .int .i64 n] w fun e w' => e = .returned (.tuple #[]) ∧ w'.cell? ⟨b, 0, none⟩ = some (.map (some w.heap.size)) ∧
      w'.ownsMap Try.prog 24 (plainElem (H := Unit) Try.prog 3) w.heap.size 0 (.map []) ∧ w.grownBy w' (some b) := by
  refine (zres_any b m n w hc hf hb).mono fun e w' ⟨he, hw⟩ => ?_
  subst hw
  refine ⟨he, ?_, ?_, ?_⟩
  · rw [World.cell?_alloc_lt _ _ _ (by simpa [World.setCell] using hb)]
    exact World.cell?_setCell_same w _ _ hc
  · have e1 : (w.setCell ⟨b, 0, none⟩ (.map (some w.heap.size))).heap.size = w.heap.size := by simp [World.setCell]
    have := World.ownsMap_made (H := Unit) (w.setCell ⟨b, 0, none⟩ (.map (some w.heap.size))) Try.prog 24 (plainElem Try.prog 3)
    rw [e1] at this
    exact this
  · refine ⟨rfl, rfl, rfl, by simp [World.setCell], fun i hi hne => ?_⟩
    rw [Below.heap_alloc _ _ _ (by simpa using hi)]
    exact Below.heap_setCell _ _ _ _ (fun e => hne (by rw [e]))

end Res
end Go.Proofs.Qxb6615024a
