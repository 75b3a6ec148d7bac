/-
  THE WALKS of the law's own helpers: clones, zzSetInRange, the bound on lengths.
-/
import Derived.Test.Qxb6615024aDoorSet
namespace Go.Proofs.Qxb6615024aDoor
open Go.RowKit
set_option linter.unusedVariables false
namespace Gl

theorem Tryd.info30 : (Tryd.prog.info? 30).map (fun i => (i.zero, i.size, i.bytes)) = some (some (.int .u64 0), 1, 8) := by kernel_rfl
theorem Tryd.info21 : (Tryd.prog.info? 21).map (fun i => (i.zero, i.size, i.bytes)) = some (some (.int .i32 0), 1, 4) := by kernel_rfl

/-- 'make([]T, n)', n whatever number of at most 2^20: its run, at a slice of integers -/
theorem make_run (t e : TypeId) (k : IntKind) (bytes : Nat) (h1 : Tryd.prog.underlying t = some (.slice e)) (hi : (Tryd.prog.info? e).map (fun i => (i.zero, i.size, i.bytes)) = some (some (.int k 0), 1, bytes)) (hb : bytes ≤ 8) (n : Nat) (hn : n ≤ 1048576) (w : World) :
    (Instr.makeSlice t (.int .i64 (n : Int)) (.int .i64 (n : Int))).run Tryd.prog w = .ok (.slice (some ⟨w.heap.size, 0, none⟩) n n) (w.alloc (.cells (madeCells #[Value.int k 0] n) e)) := by
  obtain ⟨i, hi, hz0, hz1, hz2⟩ := info_parts hi
  have := run_make (P := Tryd.prog) w t e i (.int k 0) h1 hi hz0 .i64 .i64 (n : Int) (n : Int) (by omega) (by omega) (by
    rw [hz2]
    have : ((bytes : Int) * (n : Int)) ≤ 8 * 1048576 := Int.mul_le_mul (by omega) (by omega) (by omega) (by omega)
    omega) (by omega)
  rw [hz1] at this
  simpa [Value.cells] using this

theorem hide' {p : Prop} (h : p) : Hid p := h

theorem take_set (zs out : List Int) (k : Nat) (hk : k < zs.length) (hl : out.length = zs.length) (h : ∀ i, i < k → out.getD i 0 = zs.getD i 0) : ∀ i, i < k + 1 → (out.set k (zs.getD k 0)).getD i 0 = zs.getD i 0 := by
  intro i hi
  by_cases e : k = i
  · subst e; exact getD_set_eq _ _ _ (by omega)
  · rw [getD_set_ne _ _ _ _ e]; exact h i (by omega)

theorem eq_of_getD (zs out : List Int) (hl : out.length = zs.length) (h : ∀ i, i < zs.length → out.getD i 0 = zs.getD i 0) : out = zs := by
  apply List.ext_getElem hl
  intro i h1 h2
  have := h i h2
  simpa [List.getD_eq_getElem?_getD, h1, h2] using this

set_option maxHeartbeats 800000 in
set_option maxRecDepth 100000 in
/-- zzCloneWords, of a slice with an element -/
theorem cloneW_any (b off cap n : Nat) (zs : List Int) (w : World) (hz : zs.length = n) (hn : n ≤ 4096) (hc : Cl w .u64 b off zs) (hb : b < w.heap.size) :
    Calls Tryd.prog 18 #[.slice (some ⟨b, off, none⟩) n cap] w fun e w' => e = .returned (.slice (some ⟨w.heap.size, 0, none⟩) n n) ∧ Row w' .u64 30 w.heap.size n zs ∧ Kept w w' [] := by
  have hnil : ∀ w, (binOp .eql 29 (.slice (some ⟨b, off, none⟩) n cap) (.slice none 0 0)).run Tryd.prog w = .ok (.bool false) w := fun w => Lib.run_eql_slice_nil (P := Tryd.prog) w 29 30 _ _ _ 0 0 Tryd.underlying29
  have hmk := make_run 29 30 .u64 8 Tryd.underlying29 Tryd.info30 (by decide) n (by omega)
  go_enter Tryd.func18, Tryd.ntmps18
  go_wp2
  go_loopw [4] (fun i wr => ∃ (k : Nat) (out : List Int), k ≤ n ∧ i = .int .i64 k ∧ Row wr .u64 30 w.heap.size n out ∧ out.length = n ∧ Kept w wr [] ∧ Hid (∀ i, i < k → out.getD i 0 = zs.getD i 0)) (fun i _ => n - (intOf i).toNat)
  case atStart => exact ⟨0, List.replicate n 0, Nat.zero_le _, rfl, Row.made w .u64 30 n, by simp, (Kept.refl _ _).alloc _, fun i hi => absurd hi (Nat.not_lt_zero _)⟩
  case round =>
    obtain ⟨k, out, hk, rfl, hr, hl, hkk, HO⟩ := hrel
    by_cases hlt : k < n
    · have c1 := (hkk.cell (p := ⟨b, off + k, none⟩) hb (by simp)).trans (hc k (by omega))
      have c2 := hr.cell k (by omega)
      have f2 := hr.frozen k
      have hset := hr.set k (by omega) (zs.getD k 0)
      have HS := hide' (take_set zs out k (by omega) (by omega) HO.out)
      generalize hy : zs.getD k 0 = y at *
      have HY : Hid (zs.getD k 0 = y) := hy
      clear hy
      generalize out.getD k 0 = y' at *
      clear hr hc
      go_wp2
      go_roundw
      case rel => exact ⟨k + 1, out.set k y, by omega, by go_num, hset, by simpa using hl, hkk.setCell (Or.inr (Nat.le_refl _)) _, HS.out⟩
      case measure => simp [intOf]; omega
    · have e : out = zs := eq_of_getD zs out (by omega) (fun i hi => HO.out i (by omega))
      subst e
      clear HO hc
      go_wp2
      go_ret
      exact ⟨rfl, hr, hkk⟩


/-- the pattern, as the law holds it: a slice of n runes from its row's head on (of no rune: whatever) -/
def PS (w : World) (a : Option Addr) (n : Nat) (zs : List Int) : Prop := zs.length = n ∧ (n = 0 ∨ ∃ b, a = some ⟨b, 0, none⟩ ∧ Row w .i32 21 b n zs)

set_option maxHeartbeats 800000 in
set_option maxRecDepth 100000 in
theorem cloneR_nil (w : World) : Calls Tryd.prog 6 #[.slice none 0 0] w fun e w' => e = .returned (.slice none 0 0) ∧ w' = w := by
  have hnil : ∀ w, (binOp .eql 22 (.slice none 0 0) (.slice none 0 0)).run Tryd.prog w = .ok (.bool true) w := fun w => Lib.run_eql_slice_nil (P := Tryd.prog) w 22 21 none 0 0 0 0 Tryd.underlying22
  go_enter Tryd.func6, Tryd.ntmps6
  go_wp2
  go_ret
  exact ⟨rfl, rfl⟩

set_option maxHeartbeats 800000 in
set_option maxRecDepth 100000 in
theorem cloneR_zero (x : Addr) (cap : Nat) (w : World) : Calls Tryd.prog 6 #[.slice (some x) 0 cap] w fun e w' => e = .returned (.slice (some ⟨w.heap.size, 0, none⟩) 0 0) ∧ Kept w w' [] := by
  have hnil : ∀ w, (binOp .eql 22 (.slice (some x) 0 cap) (.slice none 0 0)).run Tryd.prog w = .ok (.bool false) w := fun w => Lib.run_eql_slice_nil (P := Tryd.prog) w 22 21 _ _ _ 0 0 Tryd.underlying22
  have hmk : ∀ w, (Instr.makeSlice 22 (.int .i64 0) (.int .i64 0)).run Tryd.prog w = .ok (.slice (some ⟨w.heap.size, 0, none⟩) 0 0) (w.alloc (.cells (madeCells #[Value.int .i32 0] 0) 21)) := make_run 22 21 .i32 4 Tryd.underlying22 Tryd.info21 (by decide) 0 (by decide)
  go_enter Tryd.func6, Tryd.ntmps6
  go_wp2
  refine wp_loop_rounds 1 ?_
  rw [rounds_succ]
  go_wp2
  go_ret
  exact ⟨rfl, (Kept.refl _ _).alloc _⟩

set_option maxHeartbeats 800000 in
set_option maxRecDepth 100000 in
theorem cloneR_some (b off cap n : Nat) (zs : List Int) (w : World) (hz : zs.length = n) (hn : n ≤ 4096) (hc : Cl w .i32 b off zs) (hb : b < w.heap.size) :
    Calls Tryd.prog 6 #[.slice (some ⟨b, off, none⟩) n cap] w fun e w' => e = .returned (.slice (some ⟨w.heap.size, 0, none⟩) n n) ∧ Row w' .i32 21 w.heap.size n zs ∧ Kept w w' [] := by
  have hnil : ∀ w, (binOp .eql 22 (.slice (some ⟨b, off, none⟩) n cap) (.slice none 0 0)).run Tryd.prog w = .ok (.bool false) w := fun w => Lib.run_eql_slice_nil (P := Tryd.prog) w 22 21 _ _ _ 0 0 Tryd.underlying22
  have hmk := make_run 22 21 .i32 4 Tryd.underlying22 Tryd.info21 (by decide) n (by omega)
  go_enter Tryd.func6, Tryd.ntmps6
  go_wp2
  go_loopw [4] (fun i wr => ∃ (k : Nat) (out : List Int), k ≤ n ∧ i = .int .i64 k ∧ Row wr .i32 21 w.heap.size n out ∧ out.length = n ∧ Kept w wr [] ∧ Hid (∀ i, i < k → out.getD i 0 = zs.getD i 0)) (fun i _ => n - (intOf i).toNat)
  case atStart => exact ⟨0, List.replicate n 0, Nat.zero_le _, rfl, Row.made w .i32 21 n, by simp, (Kept.refl _ _).alloc _, fun i hi => absurd hi (Nat.not_lt_zero _)⟩
  case round =>
    obtain ⟨k, out, hk, rfl, hr, hl, hkk, HO⟩ := hrel
    by_cases hlt : k < n
    · have c1 := (hkk.cell (p := ⟨b, off + k, none⟩) hb (by simp)).trans (hc k (by omega))
      have c2 := hr.cell k (by omega)
      have f2 := hr.frozen k
      have hset := hr.set k (by omega) (zs.getD k 0)
      have HS := hide' (take_set zs out k (by omega) (by omega) HO.out)
      generalize hy : zs.getD k 0 = y at *
      have HY : Hid (zs.getD k 0 = y) := hy
      clear hy
      generalize out.getD k 0 = y' at *
      clear hr hc
      go_wp2
      go_roundw
      case rel => exact ⟨k + 1, out.set k y, by omega, by go_num, hset, by simpa using hl, hkk.setCell (Or.inr (Nat.le_refl _)) _, HS.out⟩
      case measure => simp [intOf]; omega
    · have e : out = zs := eq_of_getD zs out (by omega) (fun i hi => HO.out i (by omega))
      subst e
      clear HO hc
      go_wp2
      go_ret
      exact ⟨rfl, hr, hkk⟩

/-- zzCloneRunes, in one word -/
theorem cloneR_any (a : Option Addr) (n cap : Nat) (zs : List Int) (w : World) (hn : n ≤ 4096) (hz : zs.length = n) (hnil : a = none → n = 0 ∧ cap = 0) (hc : 0 < n → ∃ b off, a = some ⟨b, off, none⟩ ∧ b < w.heap.size ∧ Cl w .i32 b off zs) :
    Calls Tryd.prog 6 #[.slice a n cap] w fun e w' => ∃ a', e = .returned (.slice a' n n) ∧ PS w' a' n zs ∧ Kept w w' [] ∧ ∀ b, a' = some ⟨b, 0, none⟩ → w.heap.size ≤ b := by
  by_cases h0 : 0 < n
  · obtain ⟨b, off, rfl, hb, hcl⟩ := hc h0
    refine (cloneR_some b off cap n zs w hz hn hcl hb).mono ?_
    rintro e w' ⟨he, hr, hk⟩
    exact ⟨_, he, ⟨hz, Or.inr ⟨_, rfl, hr⟩⟩, hk, fun b h => by simp at h; omega⟩
  · have e0 : n = 0 := by omega
    subst e0
    cases a with
    | none =>
      obtain ⟨_, rfl⟩ := hnil rfl
      refine (cloneR_nil w).mono ?_
      rintro e w' ⟨he, rfl⟩
      exact ⟨none, he, ⟨hz, Or.inl rfl⟩, Kept.refl _ _, fun b h => by simp at h⟩
    | some x =>
      refine (cloneR_zero x cap w).mono ?_
      rintro e w' ⟨he, hk⟩
      exact ⟨_, he, ⟨hz, Or.inl rfl⟩, hk, fun b h => by simp at h; omega⟩

/-- what zzSetInRange holds a set to -/
def InR (zs : List Int) (n : Nat) (f l : Int) : Prop := 0 ≤ f ∧ f ≤ n ∧ -1 ≤ l ∧ l < n ∧ ∀ i : Nat, i < n → ((i : Int) < f ∨ l < i) → zs.getD i 0 = 0

def InrOut (zs : List Int) (n : Nat) (f l : Int) (e : Ending) : Prop := ∃ t : Bool, e = .returned (.bool t) ∧ (t = true → InR zs n f l)
theorem inr_no (zs : List Int) (n : Nat) (f l : Int) : InrOut zs n f l (.returned (.bool false)) := ⟨false, rfl, fun h => by cases h⟩

set_option maxHeartbeats 1600000 in
set_option maxRecDepth 100000 in
theorem inr_any (b off cap n : Nat) (f l : Int) (zs : List Int) (w : World) (hz : zs.length = n) (hn : n ≤ 4096) (hc : Cl w .u64 b off zs) :
    Calls Tryd.prog 17 #[.slice (some ⟨b, off, none⟩) n cap, .int .i64 f, .int .i64 l] w fun e w' => InrOut zs n f l e ∧ w' = w := by
  by_cases h : f < 0 ∨ (0 ≤ f ∧ (n : Int) < f) ∨ (0 ≤ f ∧ f ≤ n ∧ l < -1) ∨ (0 ≤ f ∧ f ≤ n ∧ -1 ≤ l ∧ (n : Int) ≤ l)
  · rcases h with h | ⟨h, h'⟩ | ⟨h, h', h''⟩ | ⟨h, h', h'', h3⟩
    all_goals
      go_enter Tryd.func17, Tryd.ntmps17
      go_wp2
      go_ret
      exact ⟨inr_no zs n f l, rfl⟩
  · have q0 : 0 ≤ f := by omega
    have q1 : f ≤ n := by omega
    have q2 : -1 ≤ l := by omega
    have q3 : l < n := by omega
    clear h
    go_enter Tryd.func17, Tryd.ntmps17
    go_wp2
    go_loop [8] (fun i => ∃ k : Nat, k ≤ n ∧ i = .int .i64 k ∧ Hid (∀ i : Nat, i < k → ((i : Int) < f ∨ l < i) → zs.getD i 0 = 0)) (fun i => n - (intOf i).toNat)
    case atStart => exact ⟨0, Nat.zero_le _, rfl, fun i hi => absurd hi (Nat.not_lt_zero _)⟩
    case round =>
      obtain ⟨k, hk, rfl, HO⟩ := hrel
      by_cases hlt : k < n
      · have c1 := hc k (by omega)
        generalize hy : zs.getD k 0 = y at *
        have HY : Hid (zs.getD k 0 = y) := hy
        clear hy
        have hkn : (k : Int) < (n : Int) := by omega
        by_cases ho : (k : Int) < f ∨ l < (k : Int)
        · by_cases hy0 : y = 0
          · have HR : Hid (∀ i : Nat, i < k + 1 → ((i : Int) < f ∨ l < i) → zs.getD i 0 = 0) := by
              intro i hi hio
              by_cases e : i = k
              · subst e; rw [HY.out]; exact hy0
              · exact HO.out i (by omega) hio
            have hyb : (y != 0) = false := by simpa using hy0
            clear hc hy0
            by_cases o1 : (k : Int) < f
            · clear ho
              go_wp2
              go_round
              case rel => exact ⟨k + 1, by omega, by go_num, HR.out⟩
              case measure => simp [intOf]; omega
            · have o2 : l < (k : Int) := by omega
              clear ho
              go_wp2
              go_round
              case rel => exact ⟨k + 1, by omega, by go_num, HR.out⟩
              case measure => simp [intOf]; omega
          · have hyb : (y != 0) = true := by simpa using hy0
            clear hc hy0
            by_cases o1 : (k : Int) < f
            · clear ho
              go_wp2
              go_ret
              exact ⟨inr_no zs n f l, rfl⟩
            · have o2 : l < (k : Int) := by omega
              clear ho
              go_wp2
              go_ret
              exact ⟨inr_no zs n f l, rfl⟩
        · have HR : Hid (∀ i : Nat, i < k + 1 → ((i : Int) < f ∨ l < i) → zs.getD i 0 = 0) := by
            intro i hi hio
            by_cases e : i = k
            · subst e; exact absurd hio ho
            · exact HO.out i (by omega) hio
          have o1 : f ≤ (k : Int) := by omega
          have o2 : (k : Int) ≤ l := by omega
          clear hc ho
          go_wp2
          go_round
          case rel => exact ⟨k + 1, by omega, by go_num, HR.out⟩
          case measure => simp [intOf]; omega
      · have HR : Hid (InR zs n f l) := ⟨q0, q1, q2, q3, fun i hi hio => HO.out i (by omega) hio⟩
        clear hc
        go_wp2
        go_ret
        exact ⟨⟨true, rfl, fun _ => HR.out⟩, rfl⟩

end Gl
end Go.Proofs.Qxb6615024aDoor
