/-
  THE WALKS of 'FnReserveLeavesTheOldMapAlone': zzHashMap.
-/
import Derived.Test.Qxb6615024aChecked
import Derived.WalkKit
import Derived.RegionTactic
import Derived.ChangeAlike
import Derived.Maps.OwnSet
import Derived.OpenShut
namespace Go.Proofs.Qxb6615024a
open Go.RowKit Go.Maps

set_option linter.unusedVariables false
namespace Res

/-- the map after k rounds: a ghost of the proof -/
def Hd (z0 z1 : List Int) : Nat → DataW Unit
  | 0 => .map []
  | k + 1 => (Hd z0 z1 k).put (.int .u64 (z0.getD k 0)) (.lit (.int .i64 (z1.getD k 0)))

theorem law24 : Keyed Try.prog 24 := int_keyed Try.underlying24
theorem zero3 (w : World) : (zeroValue 3).run Try.prog w = .ok (.int .i64 0) w := by kernel_rfl

theorem wf_getD {k : IntKind} {zs : List Int} (h : ∀ n ∈ zs, (Lit.int k n).wf = true) (j : Nat) : (Lit.int k (zs.getD j 0)).wf = true := by
  rw [List.getD_eq_getElem?_getD]
  cases e : zs[j]? with
  | none => cases k <;> decide
  | some v => exact h v (List.mem_of_getElem? e)

/-- a slice of integers, as the walk is told of it -/
def IsRow (k : IntKind) (w : World) (a : Option Addr) (len cap : Nat) (zs : List Int) : Prop :=
  (a = none ∧ len = 0 ∧ cap = 0 ∧ zs = []) ∨
  ∃ x, a = some x ∧ len ≤ cap ∧ cap ≤ maxLen ∧ zs.length = cap ∧ (∀ i, i < zs.length → w.cell? (x.add i) = some (.int k (zs.getD i 0))) ∧ ∀ n ∈ zs, (Lit.int k n).wf = true

set_option maxHeartbeats 800000 in
set_option maxRecDepth 100000 in
theorem hm_none (a0 a1 : Option Addr) (len0 cap0 len1 cap1 : Nat) (w : World) (h0 : len0 ≤ 4096) (h1 : len1 ≤ 4096) (h : len0 = 0 ∨ len1 = 0) :
    Calls Try.prog 7 #[.slice a0 len0 cap0, .slice a1 len1 cap1, .bool false] w fun e w' => e = .returned (.map (some w.heap.size)) ∧ w' = w.alloc (.map #[] 0) := by
  have hmm := @run_makeMap Try.prog
  rcases h with rfl | rfl
  · go_enter Try.func7, Try.ntmps7
    go_wp2
    refine wp_loop_rounds 1 ?_
    rw [rounds_succ]
    go_wp2
    go_ret
    exact ⟨rfl, rfl⟩
  · by_cases hz : 0 < len0
    all_goals
      go_enter Try.func7, Try.ntmps7
      go_wp2
      refine wp_loop_rounds 1 ?_
      rw [rounds_succ]
      go_wp2
      go_ret
      exact ⟨rfl, rfl⟩

set_option maxHeartbeats 1000000 in
set_option maxRecDepth 100000 in
theorem hm_some (xb0 xo0 xb1 xo1 : Nat) (len0 cap0 len1 cap1 : Nat) (z0 z1 : List Int) (w : World) (h0 : len0 ≤ 4096) (h1 : len1 ≤ 4096) (hz0 : len0 ≤ z0.length) (hz1 : len1 ≤ z1.length)
    (b0 : xb0 < w.heap.size) (b1 : xb1 < w.heap.size)
    (c0 : ∀ i, i < z0.length → w.cell? ⟨xb0, xo0 + i, none⟩ = some (.int .u64 (z0.getD i 0))) (f0 : ∀ n ∈ z0, (Lit.int .u64 n).wf = true)
    (c1 : ∀ i, i < z1.length → w.cell? ⟨xb1, xo1 + i, none⟩ = some (.int .i64 (z1.getD i 0))) (f1 : ∀ n ∈ z1, (Lit.int .i64 n).wf = true) :
    Calls Try.prog 7 #[.slice (some ⟨xb0, xo0, none⟩) len0 cap0, .slice (some ⟨xb1, xo1, none⟩) len1 cap1, .bool false] w fun e w' => e = .returned (.map (some w.heap.size)) ∧
      w'.ownsMap Try.prog 24 (plainElem Try.prog 3) w.heap.size (min len0 len1) (Hd z0 z1 (min len0 len1)) ∧ Below w.heap.size w w' := by
  have hmm := @run_makeMap Try.prog
  go_enter Try.func7, Try.ntmps7
  go_wp2
  go_loopw [8] (fun i wr => ∃ k : Nat, k ≤ min len0 len1 ∧ i = .int .i64 k ∧ wr.ownsMap Try.prog 24 (plainElem Try.prog 3) w.heap.size k (Hd z0 z1 k) ∧ Below w.heap.size w wr)
    (fun i _ => 4096 - (intOf i).toNat)
  case atStart => exact ⟨0, Nat.zero_le _, rfl, World.ownsMap_made _ _ _ _, (Below.refl _ _).alloc (Nat.le_refl _) _⟩
  case round =>
    obtain ⟨k, hk, rfl, hown, hnx⟩ := hrel
    by_cases hlt : k < len0 ∧ k < len1
    · obtain ⟨hl0, hl1⟩ := hlt
      have g0 : wr.cell? ⟨xb0, xo0 + k, none⟩ = some (.int .u64 (z0.getD k 0)) := (hnx.cell (by exact b0)).trans (c0 k (by omega))
      have g1 : wr.cell? ⟨xb1, xo1 + k, none⟩ = some (.int .i64 (z1.getD k 0)) := (hnx.cell (by exact b1)).trans (c1 k (by omega))
      have w0 := wf_getD f0 k
      have w1 := wf_getD f1 k
      have hkey : keyOf Try.prog 24 (.int .u64 (z0.getD k 0)) = some (.int .u64 (z0.getD k 0)) := keyOf_int_mk Try.underlying24 w0
      obtain ⟨w2, hrun, hown2, hgrow2⟩ := hown.drew.update (val := .int .i64 (z1.getD k 0)) law24 Try.underlying26 (by unfold maxLen; omega) hkey (plainElem_int Try.underlying3 w1)
      generalize hx : z0.getD k 0 = x at *
      generalize hy : z1.getD k 0 = y at *
      have HX : Hid (Hd z0 z1 (k + 1) = (Hd z0 z1 k).put (.int .u64 x) (.lit (.int .i64 y))) := by
        rw [← hx, ← hy]; rfl
      clear hx hy c0 c1 f0 f1 w0 w1 hkey
      go_wp2
      go_region
      all_goals
        go_wp2
        go_roundw
        case rel => exact ⟨k + 1, by omega, by go_num, HX.out ▸ hown2, hnx.drew.grown hgrow2 hnx.size (fun j hj => by cases hj; exact Nat.le_refl _)⟩
        case measure => simp [intOf]; omega
    · have hk' : k = min len0 len1 := by omega
      rw [hk'] at hown
      by_cases hl0 : k < len0
      · have hl1 : len1 ≤ k := by omega
        clear hlt hk' c0 c1 f0 f1
        go_wp2
        go_ret
        exact ⟨rfl, hown, hnx⟩
      · clear hlt hk' c0 c1 f0 f1
        go_wp2
        go_ret
        exact ⟨rfl, hown, hnx⟩

/-- ONE WORD FOR BOTH: whatever the two slices, at most 4096 elements each -/
theorem hm_any (a0 : Option Addr) (len0 cap0 : Nat) (z0 : List Int) (a1 : Option Addr) (len1 cap1 : Nat) (z1 : List Int) (w w' : World) (hB : Below w.heap.size w w')
    (r0 : IsRow .u64 w a0 len0 cap0 z0) (r1 : IsRow .i64 w a1 len1 cap1 z1) (h0 : len0 ≤ 4096) (h1 : len1 ≤ 4096) :
    Calls Try.prog 7 #[.slice a0 len0 cap0, .slice a1 len1 cap1, .bool false] w' fun e w'' => e = .returned (.map (some w'.heap.size)) ∧
      w''.ownsMap Try.prog 24 (plainElem Try.prog 3) w'.heap.size (min len0 len1) (Hd z0 z1 (min len0 len1)) ∧ Below w'.heap.size w' w'' := by
  by_cases hz : len0 = 0 ∨ len1 = 0
  · have hm : min len0 len1 = 0 := by omega
    refine (hm_none a0 a1 len0 cap0 len1 cap1 w' h0 h1 hz).mono fun e w'' ⟨he, hw⟩ => ?_
    subst hw
    rw [hm]
    exact ⟨he, World.ownsMap_made _ _ _ _, (Below.refl _ _).alloc (Nat.le_refl _) _⟩
  · rcases r0 with ⟨_, e, _⟩ | ⟨x0, rfl, l0, m0, q0, c0, f0⟩
    · exact absurd (Or.inl e) hz
    · rcases r1 with ⟨_, e, _⟩ | ⟨x1, rfl, l1, m1, q1, c1, f1⟩
      · exact absurd (Or.inr e) hz
      · obtain ⟨b0, o0, rfl, d0⟩ := ints_at c0 (by omega)
        obtain ⟨b1, o1, rfl, d1⟩ := ints_at c1 (by omega)
        have t0 : b0 < w.heap.size := by simpa using World.block_lt_of_cell? w _ (d0 0 (by omega))
        have t1 : b1 < w.heap.size := by simpa using World.block_lt_of_cell? w _ (d1 0 (by omega))
        have hs := hB.size
        exact hm_some b0 o0 b1 o1 len0 cap0 len1 cap1 z0 z1 w' h0 h1 (by omega) (by omega) (by omega) (by omega)
          (fun i hi => (hB.cell (p := ⟨b0, o0 + i, none⟩) t0).trans (d0 i hi)) f0 (fun i hi => (hB.cell (p := ⟨b1, o1 + i, none⟩) t1).trans (d1 i hi)) f1

end Res
end Go.Proofs.Qxb6615024a
