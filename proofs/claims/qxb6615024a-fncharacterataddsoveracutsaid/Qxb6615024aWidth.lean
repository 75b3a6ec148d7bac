/-
  THE WALK of zzWidth.
-/
import Derived.Test.Qxb6615024aChecked
import Derived.Test.Qxb6615024aRunes
import Derived.WalkKit
import Derived.WalkSpells
namespace Go.Proofs.Qxb6615024a
open Go.RowKit
set_option linter.unusedVariables false
namespace Chr

set_option maxHeartbeats 400000 in
set_option maxRecDepth 100000 in
theorem w_ascii (s : ByteArray) (i : Nat) (w : World) (hs : s.size ≤ 1048576) (hi : i < s.size) (b0 : Nat) (e0 : s[i].toNat = b0) (h : b0 < 128) :
    Calls Try.prog 18 #[.string s, .int .i64 i] w fun e w' => e = .returned (.int .i64 1) ∧ w' = w := by
  go_enter Try.func18, Try.ntmps18
  go_wp2
  go_ret
  exact ⟨rfl, rfl⟩

set_option maxHeartbeats 400000 in
set_option maxRecDepth 100000 in
theorem w_bad (s : ByteArray) (i : Nat) (w : World) (hs : s.size ≤ 1048576) (hi : i < s.size) (b0 : Nat) (e0 : s[i].toNat = b0) (h0 : 128 ≤ b0) (h : b0 < 194 ∨ 244 < b0) :
    Calls Try.prog 18 #[.string s, .int .i64 i] w fun e w' => e = .returned (.int .i64 1) ∧ w' = w := by
  rcases h with h | h
  all_goals
    go_enter Try.func18, Try.ntmps18
    go_wp2
    go_ret
    exact ⟨rfl, rfl⟩

/-- the lead bytes, by how many bytes they ask for and in which range the second must lie -/
def C2 (b0 lo hi : Nat) : Prop := 194 ≤ b0 ∧ b0 ≤ 223 ∧ lo = 128 ∧ hi = 191
def C3 (b0 lo hi : Nat) : Prop := (b0 = 224 ∧ lo = 160 ∧ hi = 191) ∨ (225 ≤ b0 ∧ b0 ≤ 236 ∧ lo = 128 ∧ hi = 191) ∨ (b0 = 237 ∧ lo = 128 ∧ hi = 159) ∨ (238 ≤ b0 ∧ b0 ≤ 239 ∧ lo = 128 ∧ hi = 191)
def C4 (b0 lo hi : Nat) : Prop := (b0 = 240 ∧ lo = 144 ∧ hi = 191) ∨ (241 ≤ b0 ∧ b0 ≤ 243 ∧ lo = 128 ∧ hi = 191) ∨ (b0 = 244 ∧ lo = 128 ∧ hi = 143)

set_option maxHeartbeats 1600000 in
set_option maxRecDepth 100000 in
theorem w2_short (s : ByteArray) (i : Nat) (w : World) (hs : s.size ≤ 1048576) (hi : i < s.size) (b0 lo hi' : Nat) (e0 : s[i].toNat = b0) (hc : C2 b0 lo hi') (hn : s.size < i + 2) :
    Calls Try.prog 18 #[.string s, .int .i64 i] w fun e w' => e = .returned (.int .i64 1) ∧ w' = w := by
  rcases hc with ⟨h0, h1, rfl, rfl⟩
  all_goals
    go_enter Try.func18, Try.ntmps18
    go_wp2
    go_ret
    exact ⟨rfl, rfl⟩


set_option maxHeartbeats 1600000 in
set_option maxRecDepth 100000 in
theorem w2_lo (s : ByteArray) (i : Nat) (w : World) (hs : s.size ≤ 1048576) (hi : i < s.size) (b0 lo hi' : Nat) (e0 : s[i].toNat = b0) (hc : C2 b0 lo hi') (hn : i + 1 < s.size) (b1 : Nat) (e1 : s[i+1].toNat = b1) (hb : b1 < lo) :
    Calls Try.prog 18 #[.string s, .int .i64 i] w fun e w' => e = .returned (.int .i64 1) ∧ w' = w := by
  rcases hc with ⟨h0, h1, rfl, rfl⟩
  all_goals
    go_enter Try.func18, Try.ntmps18
    go_wp2
    go_ret
    exact ⟨rfl, rfl⟩


set_option maxHeartbeats 1600000 in
set_option maxRecDepth 100000 in
theorem w2_hi (s : ByteArray) (i : Nat) (w : World) (hs : s.size ≤ 1048576) (hi : i < s.size) (b0 lo hi' : Nat) (e0 : s[i].toNat = b0) (hc : C2 b0 lo hi') (hn : i + 1 < s.size) (b1 : Nat) (e1 : s[i+1].toNat = b1) (hb : hi' < b1) :
    Calls Try.prog 18 #[.string s, .int .i64 i] w fun e w' => e = .returned (.int .i64 1) ∧ w' = w := by
  rcases hc with ⟨h0, h1, rfl, rfl⟩
  all_goals
    go_enter Try.func18, Try.ntmps18
    go_wp2
    go_ret
    exact ⟨rfl, rfl⟩


set_option maxHeartbeats 1600000 in
set_option maxRecDepth 100000 in
theorem w2_all (s : ByteArray) (i : Nat) (w : World) (hs : s.size ≤ 1048576) (hi : i < s.size) (b0 lo hi' : Nat) (e0 : s[i].toNat = b0) (hc : C2 b0 lo hi') (hn : i + 1 < s.size) (b1 : Nat) (e1 : s[i+1].toNat = b1) (hb : lo ≤ b1) (hb' : b1 ≤ hi') :
    Calls Try.prog 18 #[.string s, .int .i64 i] w fun e w' => e = .returned (.int .i64 2) ∧ w' = w := by
  rcases hc with ⟨h0, h1, rfl, rfl⟩
  all_goals
    go_enter Try.func18, Try.ntmps18
    go_wp2
    refine wp_loop_rounds 1 ?_
    rw [rounds_succ]
    go_wp2
    go_ret
    exact ⟨rfl, rfl⟩


set_option maxHeartbeats 1600000 in
set_option maxRecDepth 100000 in
theorem w3_short (s : ByteArray) (i : Nat) (w : World) (hs : s.size ≤ 1048576) (hi : i < s.size) (b0 lo hi' : Nat) (e0 : s[i].toNat = b0) (hc : C3 b0 lo hi') (hn : s.size < i + 3) :
    Calls Try.prog 18 #[.string s, .int .i64 i] w fun e w' => e = .returned (.int .i64 1) ∧ w' = w := by
  rcases hc with ⟨rfl, rfl, rfl⟩ | ⟨h0, h1, rfl, rfl⟩ | ⟨rfl, rfl, rfl⟩ | ⟨h0, h1, rfl, rfl⟩
  all_goals
    go_enter Try.func18, Try.ntmps18
    go_wp2
    go_ret
    exact ⟨rfl, rfl⟩


set_option maxHeartbeats 1600000 in
set_option maxRecDepth 100000 in
theorem w3_lo (s : ByteArray) (i : Nat) (w : World) (hs : s.size ≤ 1048576) (hi : i < s.size) (b0 lo hi' : Nat) (e0 : s[i].toNat = b0) (hc : C3 b0 lo hi') (hn : i + 2 < s.size) (b1 : Nat) (e1 : s[i+1].toNat = b1) (hb : b1 < lo) :
    Calls Try.prog 18 #[.string s, .int .i64 i] w fun e w' => e = .returned (.int .i64 1) ∧ w' = w := by
  rcases hc with ⟨rfl, rfl, rfl⟩ | ⟨h0, h1, rfl, rfl⟩ | ⟨rfl, rfl, rfl⟩ | ⟨h0, h1, rfl, rfl⟩
  all_goals
    go_enter Try.func18, Try.ntmps18
    go_wp2
    go_ret
    exact ⟨rfl, rfl⟩


set_option maxHeartbeats 1600000 in
set_option maxRecDepth 100000 in
theorem w3_hi (s : ByteArray) (i : Nat) (w : World) (hs : s.size ≤ 1048576) (hi : i < s.size) (b0 lo hi' : Nat) (e0 : s[i].toNat = b0) (hc : C3 b0 lo hi') (hn : i + 2 < s.size) (b1 : Nat) (e1 : s[i+1].toNat = b1) (hb : hi' < b1) :
    Calls Try.prog 18 #[.string s, .int .i64 i] w fun e w' => e = .returned (.int .i64 1) ∧ w' = w := by
  rcases hc with ⟨rfl, rfl, rfl⟩ | ⟨h0, h1, rfl, rfl⟩ | ⟨rfl, rfl, rfl⟩ | ⟨h0, h1, rfl, rfl⟩
  all_goals
    go_enter Try.func18, Try.ntmps18
    go_wp2
    go_ret
    exact ⟨rfl, rfl⟩


set_option maxHeartbeats 1600000 in
set_option maxRecDepth 100000 in
theorem w3_lo2 (s : ByteArray) (i : Nat) (w : World) (hs : s.size ≤ 1048576) (hi : i < s.size) (b0 lo hi' : Nat) (e0 : s[i].toNat = b0) (hc : C3 b0 lo hi') (hn : i + 2 < s.size) (b1 : Nat) (e1 : s[i+1].toNat = b1) (hb : lo ≤ b1) (hb' : b1 ≤ hi') (b2 : Nat) (e2 : s[i+2].toNat = b2) (k : b2 < 128) :
    Calls Try.prog 18 #[.string s, .int .i64 i] w fun e w' => e = .returned (.int .i64 1) ∧ w' = w := by
  rcases hc with ⟨rfl, rfl, rfl⟩ | ⟨h0, h1, rfl, rfl⟩ | ⟨rfl, rfl, rfl⟩ | ⟨h0, h1, rfl, rfl⟩
  all_goals
    go_enter Try.func18, Try.ntmps18
    go_wp2
    refine wp_loop_rounds 1 ?_
    rw [rounds_succ]
    go_wp2
    go_ret
    exact ⟨rfl, rfl⟩


set_option maxHeartbeats 1600000 in
set_option maxRecDepth 100000 in
theorem w3_hi2 (s : ByteArray) (i : Nat) (w : World) (hs : s.size ≤ 1048576) (hi : i < s.size) (b0 lo hi' : Nat) (e0 : s[i].toNat = b0) (hc : C3 b0 lo hi') (hn : i + 2 < s.size) (b1 : Nat) (e1 : s[i+1].toNat = b1) (hb : lo ≤ b1) (hb' : b1 ≤ hi') (b2 : Nat) (e2 : s[i+2].toNat = b2) (k : 191 < b2) :
    Calls Try.prog 18 #[.string s, .int .i64 i] w fun e w' => e = .returned (.int .i64 1) ∧ w' = w := by
  rcases hc with ⟨rfl, rfl, rfl⟩ | ⟨h0, h1, rfl, rfl⟩ | ⟨rfl, rfl, rfl⟩ | ⟨h0, h1, rfl, rfl⟩
  all_goals
    go_enter Try.func18, Try.ntmps18
    go_wp2
    refine wp_loop_rounds 1 ?_
    rw [rounds_succ]
    go_wp2
    go_ret
    exact ⟨rfl, rfl⟩


set_option maxHeartbeats 1600000 in
set_option maxRecDepth 100000 in
theorem w3_all (s : ByteArray) (i : Nat) (w : World) (hs : s.size ≤ 1048576) (hi : i < s.size) (b0 lo hi' : Nat) (e0 : s[i].toNat = b0) (hc : C3 b0 lo hi') (hn : i + 2 < s.size) (b1 : Nat) (e1 : s[i+1].toNat = b1) (hb : lo ≤ b1) (hb' : b1 ≤ hi') (b2 : Nat) (e2 : s[i+2].toNat = b2) (k : 128 ≤ b2) (k' : b2 ≤ 191) :
    Calls Try.prog 18 #[.string s, .int .i64 i] w fun e w' => e = .returned (.int .i64 3) ∧ w' = w := by
  rcases hc with ⟨rfl, rfl, rfl⟩ | ⟨h0, h1, rfl, rfl⟩ | ⟨rfl, rfl, rfl⟩ | ⟨h0, h1, rfl, rfl⟩
  all_goals
    go_enter Try.func18, Try.ntmps18
    go_wp2
    refine wp_loop_rounds 2 ?_
    rw [rounds_succ]
    go_wp2
    rw [rounds_succ]
    go_wp2
    go_ret
    exact ⟨rfl, rfl⟩


set_option maxHeartbeats 1600000 in
set_option maxRecDepth 100000 in
theorem w4_short (s : ByteArray) (i : Nat) (w : World) (hs : s.size ≤ 1048576) (hi : i < s.size) (b0 lo hi' : Nat) (e0 : s[i].toNat = b0) (hc : C4 b0 lo hi') (hn : s.size < i + 4) :
    Calls Try.prog 18 #[.string s, .int .i64 i] w fun e w' => e = .returned (.int .i64 1) ∧ w' = w := by
  rcases hc with ⟨rfl, rfl, rfl⟩ | ⟨h0, h1, rfl, rfl⟩ | ⟨rfl, rfl, rfl⟩
  all_goals
    go_enter Try.func18, Try.ntmps18
    go_wp2
    go_ret
    exact ⟨rfl, rfl⟩


set_option maxHeartbeats 1600000 in
set_option maxRecDepth 100000 in
theorem w4_lo (s : ByteArray) (i : Nat) (w : World) (hs : s.size ≤ 1048576) (hi : i < s.size) (b0 lo hi' : Nat) (e0 : s[i].toNat = b0) (hc : C4 b0 lo hi') (hn : i + 3 < s.size) (b1 : Nat) (e1 : s[i+1].toNat = b1) (hb : b1 < lo) :
    Calls Try.prog 18 #[.string s, .int .i64 i] w fun e w' => e = .returned (.int .i64 1) ∧ w' = w := by
  rcases hc with ⟨rfl, rfl, rfl⟩ | ⟨h0, h1, rfl, rfl⟩ | ⟨rfl, rfl, rfl⟩
  all_goals
    go_enter Try.func18, Try.ntmps18
    go_wp2
    go_ret
    exact ⟨rfl, rfl⟩


set_option maxHeartbeats 1600000 in
set_option maxRecDepth 100000 in
theorem w4_hi (s : ByteArray) (i : Nat) (w : World) (hs : s.size ≤ 1048576) (hi : i < s.size) (b0 lo hi' : Nat) (e0 : s[i].toNat = b0) (hc : C4 b0 lo hi') (hn : i + 3 < s.size) (b1 : Nat) (e1 : s[i+1].toNat = b1) (hb : hi' < b1) :
    Calls Try.prog 18 #[.string s, .int .i64 i] w fun e w' => e = .returned (.int .i64 1) ∧ w' = w := by
  rcases hc with ⟨rfl, rfl, rfl⟩ | ⟨h0, h1, rfl, rfl⟩ | ⟨rfl, rfl, rfl⟩
  all_goals
    go_enter Try.func18, Try.ntmps18
    go_wp2
    go_ret
    exact ⟨rfl, rfl⟩


set_option maxHeartbeats 1600000 in
set_option maxRecDepth 100000 in
theorem w4_lo2 (s : ByteArray) (i : Nat) (w : World) (hs : s.size ≤ 1048576) (hi : i < s.size) (b0 lo hi' : Nat) (e0 : s[i].toNat = b0) (hc : C4 b0 lo hi') (hn : i + 3 < s.size) (b1 : Nat) (e1 : s[i+1].toNat = b1) (hb : lo ≤ b1) (hb' : b1 ≤ hi') (b2 : Nat) (e2 : s[i+2].toNat = b2) (k : b2 < 128) :
    Calls Try.prog 18 #[.string s, .int .i64 i] w fun e w' => e = .returned (.int .i64 1) ∧ w' = w := by
  rcases hc with ⟨rfl, rfl, rfl⟩ | ⟨h0, h1, rfl, rfl⟩ | ⟨rfl, rfl, rfl⟩
  all_goals
    go_enter Try.func18, Try.ntmps18
    go_wp2
    refine wp_loop_rounds 1 ?_
    rw [rounds_succ]
    go_wp2
    go_ret
    exact ⟨rfl, rfl⟩


set_option maxHeartbeats 1600000 in
set_option maxRecDepth 100000 in
theorem w4_hi2 (s : ByteArray) (i : Nat) (w : World) (hs : s.size ≤ 1048576) (hi : i < s.size) (b0 lo hi' : Nat) (e0 : s[i].toNat = b0) (hc : C4 b0 lo hi') (hn : i + 3 < s.size) (b1 : Nat) (e1 : s[i+1].toNat = b1) (hb : lo ≤ b1) (hb' : b1 ≤ hi') (b2 : Nat) (e2 : s[i+2].toNat = b2) (k : 191 < b2) :
    Calls Try.prog 18 #[.string s, .int .i64 i] w fun e w' => e = .returned (.int .i64 1) ∧ w' = w := by
  rcases hc with ⟨rfl, rfl, rfl⟩ | ⟨h0, h1, rfl, rfl⟩ | ⟨rfl, rfl, rfl⟩
  all_goals
    go_enter Try.func18, Try.ntmps18
    go_wp2
    refine wp_loop_rounds 1 ?_
    rw [rounds_succ]
    go_wp2
    go_ret
    exact ⟨rfl, rfl⟩


set_option maxHeartbeats 1600000 in
set_option maxRecDepth 100000 in
theorem w4_lo3 (s : ByteArray) (i : Nat) (w : World) (hs : s.size ≤ 1048576) (hi : i < s.size) (b0 lo hi' : Nat) (e0 : s[i].toNat = b0) (hc : C4 b0 lo hi') (hn : i + 3 < s.size) (b1 : Nat) (e1 : s[i+1].toNat = b1) (hb : lo ≤ b1) (hb' : b1 ≤ hi') (b2 : Nat) (e2 : s[i+2].toNat = b2) (k : 128 ≤ b2) (k' : b2 ≤ 191) (b3 : Nat) (e3 : s[i+3].toNat = b3) (j : b3 < 128) :
    Calls Try.prog 18 #[.string s, .int .i64 i] w fun e w' => e = .returned (.int .i64 1) ∧ w' = w := by
  rcases hc with ⟨rfl, rfl, rfl⟩ | ⟨h0, h1, rfl, rfl⟩ | ⟨rfl, rfl, rfl⟩
  all_goals
    go_enter Try.func18, Try.ntmps18
    go_wp2
    refine wp_loop_rounds 2 ?_
    rw [rounds_succ]
    go_wp2
    rw [rounds_succ]
    go_wp2
    go_ret
    exact ⟨rfl, rfl⟩


set_option maxHeartbeats 1600000 in
set_option maxRecDepth 100000 in
theorem w4_hi3 (s : ByteArray) (i : Nat) (w : World) (hs : s.size ≤ 1048576) (hi : i < s.size) (b0 lo hi' : Nat) (e0 : s[i].toNat = b0) (hc : C4 b0 lo hi') (hn : i + 3 < s.size) (b1 : Nat) (e1 : s[i+1].toNat = b1) (hb : lo ≤ b1) (hb' : b1 ≤ hi') (b2 : Nat) (e2 : s[i+2].toNat = b2) (k : 128 ≤ b2) (k' : b2 ≤ 191) (b3 : Nat) (e3 : s[i+3].toNat = b3) (j : 191 < b3) :
    Calls Try.prog 18 #[.string s, .int .i64 i] w fun e w' => e = .returned (.int .i64 1) ∧ w' = w := by
  rcases hc with ⟨rfl, rfl, rfl⟩ | ⟨h0, h1, rfl, rfl⟩ | ⟨rfl, rfl, rfl⟩
  all_goals
    go_enter Try.func18, Try.ntmps18
    go_wp2
    refine wp_loop_rounds 2 ?_
    rw [rounds_succ]
    go_wp2
    rw [rounds_succ]
    go_wp2
    go_ret
    exact ⟨rfl, rfl⟩


set_option maxHeartbeats 1600000 in
set_option maxRecDepth 100000 in
theorem w4_all (s : ByteArray) (i : Nat) (w : World) (hs : s.size ≤ 1048576) (hi : i < s.size) (b0 lo hi' : Nat) (e0 : s[i].toNat = b0) (hc : C4 b0 lo hi') (hn : i + 3 < s.size) (b1 : Nat) (e1 : s[i+1].toNat = b1) (hb : lo ≤ b1) (hb' : b1 ≤ hi') (b2 : Nat) (e2 : s[i+2].toNat = b2) (k : 128 ≤ b2) (k' : b2 ≤ 191) (b3 : Nat) (e3 : s[i+3].toNat = b3) (j : 128 ≤ b3) (j' : b3 ≤ 191) :
    Calls Try.prog 18 #[.string s, .int .i64 i] w fun e w' => e = .returned (.int .i64 4) ∧ w' = w := by
  rcases hc with ⟨rfl, rfl, rfl⟩ | ⟨h0, h1, rfl, rfl⟩ | ⟨rfl, rfl, rfl⟩
  all_goals
    go_enter Try.func18, Try.ntmps18
    go_wp2
    refine wp_loop_rounds 3 ?_
    rw [rounds_succ]
    go_wp2
    rw [rounds_succ]
    go_wp2
    rw [rounds_succ]
    go_wp2
    go_ret
    exact ⟨rfl, rfl⟩


end Chr
end Go.Proofs.Qxb6615024a
