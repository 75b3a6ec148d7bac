/-
  THE WALKS of ZZquickTree (quickTree in place) and ZZtreeOf.
-/
import Derived.Test.Qxb6615050aRouter
import Derived.Deep.QuietTactic
import Derived.BigQuiet
import Derived.WalkSmall
namespace Go.Proofs.Qxb6615050a
open Go.RowKit Go.Maps
set_option linter.unusedVariables false
namespace Qt

set_option maxHeartbeats 1000000 in
set_option maxRecDepth 100000 in
theorem quick_yes (r k : Nat) (p : Option Addr) (s path raw : ByteArray) (w : World) (hr : r < w.heap.size) (hk : k ≤ 9) (e : mi s = k) (hc : w.cell? ⟨r, 1 + k, none⟩ = some (.pointer p))
    (hraw : raw.toList.isEmpty = true) (hpath : path.toList.isEmpty = false) (hz : 0 < path.size) (b0 : Nat) (e0 : path[0].toNat = b0) (h47 : ((b0 : Int) != 47) = false) :
    Calls Try.prog 23 #[.pointer (some ⟨r, 0, none⟩), .string s, .string path, .string raw] w fun e w' => e = .returned (.pointer p) ∧ Below w.heap.size w w' := by
  have hkn := known_any s
  rw [e] at hkn
  have HK : Hid (∀ w, Calls Try.prog 30 #[.string s] w fun e w' => e = .returned (.int .i64 (k : Nat)) ∧ w' = w) := hkn
  clear hkn e
  go_enter Try.func23, Try.ntmps23
  go_wp2_with (go_in)
  have hc1 : ∀ o, (w.alloc o).cell? ⟨r, 1 + k, none⟩ = some (.pointer p) := fun o => by rw [World.cell?_alloc_lt _ _ _ (by exact hr)]; exact hc
  go_quiet ((go_at_call 30; exact Calls.quiet_of_same (HK.out _)))
  go_wp2
  go_ret
  exact ⟨rfl, below_drewN (bal (Below.refl _ _) _) _⟩


set_option maxHeartbeats 1000000 in
set_option maxRecDepth 100000 in
theorem quick_no (r : Nat) (s path raw : ByteArray) (w : World)
    (h : raw.toList.isEmpty = false ∨ (raw.toList.isEmpty = true ∧ path.toList.isEmpty = true) ∨ (raw.toList.isEmpty = true ∧ path.toList.isEmpty = false ∧ ∃ hz : 0 < path.size, ((path[0].toNat : Int) != 47) = true)) :
    Calls Try.prog 23 #[.pointer (some ⟨r, 0, none⟩), .string s, .string path, .string raw] w fun e w' => e = .returned (.pointer none) ∧ Below w.heap.size w w' := by
  rcases h with h1 | ⟨h1, h2⟩ | ⟨h1, h2, hz, h3⟩
  · go_enter Try.func23, Try.ntmps23
    go_wp2_with (go_in)
    go_ret
    exact ⟨rfl, bal (Below.refl _ _) _⟩
  · go_enter Try.func23, Try.ntmps23
    go_wp2_with (go_in)
    go_ret
    exact ⟨rfl, bal (Below.refl _ _) _⟩
  · obtain ⟨b0, e0⟩ : ∃ b0 : Nat, path[0].toNat = b0 := ⟨_, rfl⟩
    rw [e0] at h3
    go_enter Try.func23, Try.ntmps23
    go_wp2_with (go_in)
    go_ret
    exact ⟨rfl, bal (Below.refl _ _) _⟩

theorem tree_any (r m B : Nat) (s : ByteArray) (w : World) (hs : s.size ≤ maxLen) (hc : w.cell? ⟨r, 0, none⟩ = some (.map (some m))) (h : w.ownsMap Try.prog 9 ptr m 9 (Tr B 9)) :
    Calls Try.prog 24 #[.pointer (some ⟨r, 0, none⟩), .string s] w fun e w' => e = .returned (.pointer (tp B (mi s))) ∧ w' = w := by
  have hl := look_Tr h s hs
  generalize tp B (mi s) = p at *
  clear h
  go_enter Try.func24, Try.ntmps24
  go_wp2
  go_ret
  exact ⟨rfl, rfl⟩

/-- is the path such that the quick search may answer? -/
def quickB (path raw : ByteArray) : Bool := raw.toList.isEmpty && !path.toList.isEmpty && ((path.toList.headD 0).toNat == 47)

theorem head_of (path : ByteArray) (h : path.toList.isEmpty = false) : ∃ hz : 0 < path.size, path[0].toNat = (path.toList.headD 0).toNat := by
  rw [ByteArray.toList_eq] at h ⊢
  obtain ⟨⟨l⟩⟩ := path
  cases l with
  | nil => simp at h
  | cons x l => exact ⟨by simp [ByteArray.size], rfl⟩

/-- ZZquickTree, in one word -/
theorem quick_any (r k : Nat) (p : Option Addr) (s path raw : ByteArray) (w : World) (hr : r < w.heap.size) (e : mi s = k) (hc : w.cell? ⟨r, 1 + k, none⟩ = some (.pointer p)) :
    Calls Try.prog 23 #[.pointer (some ⟨r, 0, none⟩), .string s, .string path, .string raw] w fun e w' => e = .returned (.pointer (if quickB path raw then p else none)) ∧ Below w.heap.size w w' := by
  have hk : k ≤ 9 := e ▸ mi_le s
  unfold quickB
  cases hr1 : raw.toList.isEmpty
  · simpa using quick_no r s path raw w (Or.inl hr1)
  · cases hp1 : path.toList.isEmpty
    · obtain ⟨hz, h0⟩ := head_of path hp1
      by_cases h47 : (path.toList.headD 0).toNat = 47
      · have := quick_yes r k p s path raw w hr hk e hc hr1 hp1 hz _ rfl (by rw [h0, h47]; rfl)
        have e2 : ((path.toList.headD 0).toNat == 47) = true := by rw [beq_iff_eq]; exact h47
        rw [e2]
        exact this
      · have := quick_no r s path raw w (Or.inr (Or.inr ⟨hr1, hp1, hz, by rw [h0, bne_iff_ne]; omega⟩))
        have e2 : ((path.toList.headD 0).toNat == 47) = false := by rw [beq_eq_false_iff_ne]; exact h47
        rw [e2]
        simpa using this
    · simpa using quick_no r s path raw w (Or.inr (Or.inl ⟨hr1, hp1⟩))

end Qt
end Go.Proofs.Qxb6615050a
