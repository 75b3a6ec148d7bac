/-
  THE WALKS of 'FnOverloadedErrorTextIgnoresRetryAfter'.
-/
import Derived.Test.Qxb6615100aChecked
import Derived.WalkKit
import Derived.WalkSpells
namespace Go.Proofs.Qxb6615100a
open Go.RowKit
set_option linter.unusedVariables false
namespace Ovl

/-- the error's text, as the translation lays it -/
def msg : ByteArray := ⟨(([116, 104, 101, 32, 108, 111, 103, 32, 105, 115, 32, 111, 118, 101, 114, 32, 99, 97, 112, 97, 99, 105, 116, 121, 58, 32, 105, 116, 32, 104, 111, 108].append [100, 115, 32, 97, 115, 32, 109, 97, 110, 121, 32, 115, 117, 98, 109, 105, 115, 115, 105, 111, 110, 115, 32, 97, 115, 32, 105, 116, 32, 116, 97, 107, 101]).append ([115, 32, 97, 116, 32, 111, 110, 99, 101, 59, 32, 115, 101, 110, 100, 32, 116, 104, 105, 115, 32, 111, 110, 101, 32, 97, 103, 97, 105, 110, 32, 97, 102].append [116, 101, 114, 32, 116, 104, 101, 32, 115, 101, 99, 111, 110, 100, 115, 32, 82, 101, 116, 114, 121, 45, 65, 102, 116, 101, 114, 32, 103, 105, 118, 101, 115])).toArray⟩

theorem msg_size : msg.size = 131 := by decide +kernel
theorem msg_plain : ∀ i : Nat, (h : i < msg.size) → msg[i].toNat < 48 ∨ 57 < msg[i].toNat := by decide +kernel

theorem error_any (a : Option Addr) (w : World) :
    Calls Try.prog 6 #[.pointer a] w fun e w' => e = .returned (.string msg) ∧ w' = w := by
  go_enter Try.func6, Try.ntmps6
  go_wp2
  go_ret
  exact ⟨rfl, rfl⟩

theorem text_any (a : Option Addr) (w : World) :
    Calls Try.prog 4 #[.pointer a] w fun e w' => e = .returned (.string msg) ∧ w' = w := by
  go_enter Try.func4, Try.ntmps4
  go_wp2_with fail
  refine (error_any _ _).mono ?_
  rintro e w' ⟨rfl, rfl⟩
  go_wp2
  go_ret
  exact ⟨rfl, rfl⟩

theorem new_any (n : Int) (w : World) :
    Calls Try.prog 5 #[.int .i64 n] w fun e w' => e = .returned (.pointer (some ⟨w.heap.size, 0, none⟩)) ∧ Grown w w' := by
  go_enter Try.func5, Try.ntmps5
  go_wp2
  go_ret
  exact ⟨rfl, (Grown.refl _).alloc _ _⟩

theorem grown_trans {a b c : World} (h : Grown a b) (k : Grown b c) : Grown a c := by
  obtain ⟨h1, hf, hs⟩ := h
  obtain ⟨k1, kf, ks⟩ := k
  obtain ⟨p1, p2, p3⟩ := h1
  exact ⟨World.keptBut_trans ⟨p1, p2, p3⟩ k1, fun x => (kf x).trans (hf x), Nat.le_trans hs ks⟩

set_option maxHeartbeats 800000 in
set_option maxRecDepth 100000 in
theorem law_of (m : ByteArray) (ht : ∀ a w, Calls Try.prog 4 #[.pointer a] w fun e w' => e = .returned (.string m) ∧ w' = w) (hm : m.size = 131) (hp : ∀ i : Nat, (h : i < m.size) → m[i].toNat < 48 ∨ 57 < m[i].toNat)
    (a0 a1 : Int) (w : World) : Calls Try.prog 3 #[.int .i64 a0, .int .i64 a1] w fun e w' => e = .returned (.bool true) ∧ Grown w w' := by
  have HT : Hid (∀ a w, Calls Try.prog 4 #[.pointer a] w fun e w' => e = .returned (.string m) ∧ w' = w) := ht
  have HP : Hid (∀ i : Nat, (h : i < m.size) → m[i].toNat < 48 ∨ 57 < m[i].toNat) := hp
  clear ht hp
  have hm1 : m.size < 132 := by omega
  have hm2 : 130 < m.size := by omega
  clear hm
  go_enter Try.func3, Try.ntmps3
  go_wp2_with fail
  refine (new_any _ _).mono ?_
  rintro e W1 ⟨rfl, g1⟩
  go_wp2_with fail
  refine (HT.out _ _).mono ?_
  rintro e w' ⟨rfl, rfl⟩
  go_wp2_with fail
  refine (new_any _ _).mono ?_
  rintro e W2 ⟨rfl, g2⟩
  go_wp2_with fail
  refine (HT.out _ _).mono ?_
  rintro e w' ⟨rfl, rfl⟩
  go_wp2
  go_loop [7] (fun i => ∃ k : Nat, k ≤ m.size ∧ i = .int .i64 k) (fun i => m.size - (intOf i).toNat)
  case atStart => exact ⟨0, Nat.zero_le _, rfl⟩
  case round =>
    obtain ⟨k, hk, rfl⟩ := hrel
    by_cases hlt : k < m.size
    · have hb := HP.out k hlt
      obtain ⟨b, hbe⟩ : ∃ b, m[k].toNat = b := ⟨_, rfl⟩
      rw [hbe] at hb
      rcases hb with hb | hb
      all_goals
        go_wp2
        go_round
        case rel => exact ⟨k + 1, by omega, by go_num⟩
        case measure => simp [intOf]; omega
    · go_wp2
      go_ret
      exact ⟨rfl, grown_trans g1 g2⟩

theorem law_any (a0 a1 : Int) (w : World) : Calls Try.prog 3 #[.int .i64 a0, .int .i64 a1] w fun e w' => e = .returned (.bool true) ∧ Grown w w' :=
  law_of msg text_any msg_size msg_plain a0 a1 w

end Ovl
end Go.Proofs.Qxb6615100a
