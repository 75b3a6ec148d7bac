/-
  THE WALKS of the small functions: zzHas, hasBit, setBit, empty, the set's fields, its making.
-/
import Derived.Test.Qxb6615024aDoorChecked
import Derived.Test.Qxb6615024aDoorMem
import Derived.WalkSpells
import Derived.WalkLawsBesides
import Derived.RegionTactic
import Derived.BigQuiet
namespace Go.Proofs.Qxb6615024aDoor
open Go.RowKit
set_option linter.unusedVariables false
namespace Gl

theorem has_core (b off len cap p x j y : Nat) (t : Bool) (w : World) (hp : p < 64 * len) (hl : len ≤ 4096) (hc : w.cell? ⟨b, off + p / 64, none⟩ = some (.int .u64 x))
    (h1 : bits .and .u64 (p : Int) 63 = (j : Int)) (h2 : (x : Int) / 2 ^ min j 64 = (y : Int)) (h3 : (bits .and .u64 (y : Int) 1 != 0) = t) :
    Calls Tryd.prog 15 #[.slice (some ⟨b, off, none⟩) len cap, .int .i64 p] w fun e w' => e = .returned (.bool t) ∧ w' = w := by
  go_enter Tryd.func15, Tryd.ntmps15
  go_wp2
  go_ret
  exact ⟨rfl, rfl⟩

theorem zhas_any (b off len cap p : Nat) (zs : List Int) (w : World) (hc : Cl w .u64 b off zs) (hz : zs.length = len) (hwf : WF zs) (hp : p < 64 * len) (hl : len ≤ 4096) :
    Calls Tryd.prog 15 #[.slice (some ⟨b, off, none⟩) len cap, .int .i64 p] w fun e w' => e = .returned (.bool (bo zs p)) ∧ w' = w := by
  have hx := wf_getD hwf (p / 64)
  have hcell := hc (p / 64) (by omega)
  obtain ⟨X, hX⟩ := Int.eq_ofNat_of_zero_le hx.1
  rw [hX] at hcell hx
  have hbo : bo zs p = X.testBit (p % 64) := by unfold bo; rw [hX]; rfl
  rw [hbo]
  exact has_core b off len cap p X (p % 64) (X / 2 ^ (p % 64)) _ w hp hl hcell (and63_u64 p (by omega)) (shr_eq X (p % 64) (by omega)) (and1_ne X (p % 64) (by omega))

theorem hasBit_core (b off len cap p x j y : Nat) (t : Bool) (w : World) (hp : (p : Int) / 64 < (len : Int)) (hp0 : (0 : Int) ≤ (p : Int) / 64) (hl : len ≤ 4096) (hc : w.cell? ⟨b, off + p / 64, none⟩ = some (.int .u64 x))
    (h1 : bits .and .i32 (p : Int) 63 = (j : Int)) (h2 : IntKind.u64.wrap (2 ^ min j 64) = (y : Int)) (h3 : (bits .and .u64 (x : Int) (y : Int) != 0) = t) :
    Calls Tryd.prog 29 #[.slice (some ⟨b, off, none⟩) len cap, .int .i32 p] w fun e w' => e = .returned (.bool t) ∧ w' = w.drew := by
  go_enter Tryd.func29, Tryd.ntmps29
  go_wp2
  go_region
  go_wp2
  go_ret
  exact ⟨rfl, rfl⟩

theorem hasBit_any (b off len cap p : Nat) (zs : List Int) (w : World) (hc : Cl w .u64 b off zs) (hz : zs.length = len) (hwf : WF zs) (hp : p < 64 * len) (hl : len ≤ 4096) :
    Calls Tryd.prog 29 #[.slice (some ⟨b, off, none⟩) len cap, .int .i32 p] w fun e w' => e = .returned (.bool (bo zs p)) ∧ w' = w.drew := by
  have hx := wf_getD hwf (p / 64)
  have hcell := hc (p / 64) (by omega)
  obtain ⟨X, hX⟩ := Int.eq_ofNat_of_zero_le hx.1
  rw [hX] at hcell hx
  have hbo : bo zs p = X.testBit (p % 64) := by unfold bo; rw [hX]; rfl
  rw [hbo]
  exact hasBit_core b off len cap p X (p % 64) (2 ^ (p % 64)) _ w (by omega) (by omega) hl hcell (and63_i32 p (by omega)) (shl_eq (p % 64) (by omega)) (andpow_ne X (p % 64) (by omega) (by omega))

theorem setBit_core (b len cap p x j y z : Nat) (w : World) (hp : (p : Int) / 64 < (len : Int)) (hp0 : (0 : Int) ≤ (p : Int) / 64) (hl : len ≤ 4096) (hc : w.cell? ⟨b, p / 64, none⟩ = some (.int .u64 x)) (hf : w.frozen? ⟨b, p / 64, none⟩ = false)
    (h1 : bits .and .i32 (p : Int) 63 = (j : Int)) (h2 : IntKind.u64.wrap (2 ^ min j 64) = (y : Int)) (h3 : bits .or .u64 (x : Int) (y : Int) = (z : Int)) :
    Calls Tryd.prog 30 #[.slice (some ⟨b, 0, none⟩) len cap, .int .i32 p] w fun e w' => e = .returned (.tuple #[]) ∧ w' = (w.setCell ⟨b, p / 64, none⟩ (.int .u64 z)).drew := by
  go_enter Tryd.func30, Tryd.ntmps30
  go_wp2
  go_region
  go_wp2
  go_end0
  exact ⟨rfl, rfl⟩

theorem setBit_any (b len cap p : Nat) (zs : List Int) (w : World) (hr : Row w .u64 30 b cap zs) (hz : zs.length = len) (hwf : WF zs) (hp : p < 64 * len) (hl : len ≤ 4096) :
    Calls Tryd.prog 30 #[.slice (some ⟨b, 0, none⟩) len cap, .int .i32 p] w fun e w' => e = .returned (.tuple #[]) ∧ Row w' .u64 30 b cap (sb zs p) ∧ Kept w w' [b] := by
  have hx := wf_getD hwf (p / 64)
  have hcell := hr.cell (p / 64) (by omega)
  obtain ⟨X, hX⟩ := Int.eq_ofNat_of_zero_le hx.1
  have hset := hr.set (p / 64) (by omega) ((X ||| 2 ^ (p % 64) : Nat) : Int)
  have e : zs.set (p / 64) ((X ||| 2 ^ (p % 64) : Nat) : Int) = sb zs p := by unfold sb; rw [hX]; rfl
  rw [e] at hset
  rw [hX] at hcell hx
  refine (setBit_core b len cap p X (p % 64) (2 ^ (p % 64)) (X ||| 2 ^ (p % 64)) w (by omega) (by omega) hl hcell (hr.frozen _) (and63_i32 p (by omega)) (shl_eq (p % 64) (by omega)) (orpow X (p % 64) (by omega) (by omega))).mono ?_
  rintro e w' ⟨he, rfl⟩
  exact ⟨he, hset.drew, (((Kept.refl w [b]).setCell (Or.inl (by simp)) _).drew)⟩

/-! ### the set -/
/-- a globSet at block s: its mask lies in block m, n words; first, last -/
def SetAt (w : World) (s m n : Nat) (f l : Int) : Prop := w.heap[s]? = some (.cells #[.slice (some ⟨m, 0, none⟩) n n, .int .i64 f, .int .i64 l] 49 (0, 0))

section
variable {w w' : World} {s m n : Nat} {f l : Int}
theorem SetAt.lt (h : SetAt w s m n f l) : s < w.heap.size := (Array.getElem?_eq_some_iff.1 h).1
theorem SetAt.of_block (h : SetAt w s m n f l) (e : w'.heap[s]? = w.heap[s]?) : SetAt w' s m n f l := e.trans h
theorem SetAt.kept {S : List Nat} (h : SetAt w s m n f l) (hk : Kept w w' S) (hn : s ∉ S) : SetAt w' s m n f l := h.of_block (hk.block s h.lt hn)
theorem SetAt.alloc (h : SetAt w s m n f l) (o : Obj) : SetAt (w.alloc o) s m n f l := h.kept ((Kept.refl w []).alloc o) (by simp)
theorem SetAt.drew (h : SetAt w s m n f l) : SetAt w.drew s m n f l := h
theorem SetAt.c0 (h : SetAt w s m n f l) : w.cell? ⟨s, 0, none⟩ = some (.slice (some ⟨m, 0, none⟩) n n) := by rw [cell_of_row w s 0 _ _ _ h]; rfl
theorem SetAt.c1 (h : SetAt w s m n f l) : w.cell? ⟨s, 1, none⟩ = some (.int .i64 f) := by rw [cell_of_row w s 1 _ _ _ h]; rfl
theorem SetAt.c2 (h : SetAt w s m n f l) : w.cell? ⟨s, 2, none⟩ = some (.int .i64 l) := by rw [cell_of_row w s 2 _ _ _ h]; rfl
theorem SetAt.frozen (h : SetAt w s m n f l) (i : Nat) : w.frozen? ⟨s, i, none⟩ = false := by simp [World.frozen?, show w.heap[s]? = _ from h]
theorem SetAt.setOther (h : SetAt w s m n f l) {p : Addr} (hp : p.block ≠ s) (v : Value) : SetAt (w.setCell p v) s m n f l := h.of_block (Below.heap_setCell _ _ _ _ (fun e => hp e.symm))
theorem SetAt.set1 (h : SetAt w s m n f l) (v : Int) : SetAt (w.setCell ⟨s, 1, none⟩ (.int .i64 v)) s m n v l := by
  unfold SetAt at *
  simp only [World.setCell, Array.getElem?_modify, h]
  simp
theorem SetAt.set2 (h : SetAt w s m n f l) (v : Int) : SetAt (w.setCell ⟨s, 2, none⟩ (.int .i64 v)) s m n f v := by
  unfold SetAt at *
  simp only [World.setCell, Array.getElem?_modify, h]
  simp
end

theorem newSet_any (m n : Nat) (f l : Int) (w : World) :
    Calls Tryd.prog 10 #[.slice (some ⟨m, 0, none⟩) n n, .int .i64 f, .int .i64 l] w fun e w' => e = .returned (.pointer (some ⟨w.heap.size, 0, none⟩)) ∧ SetAt w' w.heap.size m n f l ∧ Kept w w' [] := by
  go_enter Tryd.func10, Tryd.ntmps10
  go_wp2
  go_ret
  exact ⟨rfl, (MapKept.heap_alloc w _).1, (Kept.refl w []).alloc _⟩

theorem mask_any (s m n : Nat) (f l : Int) (w : World) (h : SetAt w s m n f l) :
    Calls Tryd.prog 12 #[.pointer (some ⟨s, 0, none⟩)] w fun e w' => e = .returned (.slice (some ⟨m, 0, none⟩) n n) ∧ w' = w := by
  have h0 := h.c0
  go_enter Tryd.func12, Tryd.ntmps12
  go_wp2
  go_ret
  exact ⟨rfl, rfl⟩

theorem first_any (s m n : Nat) (f l : Int) (w : World) (h : SetAt w s m n f l) :
    Calls Tryd.prog 13 #[.pointer (some ⟨s, 0, none⟩)] w fun e w' => e = .returned (.int .i64 f) ∧ w' = w := by
  have h0 := h.c1
  go_enter Tryd.func13, Tryd.ntmps13
  go_wp2
  go_ret
  exact ⟨rfl, rfl⟩

theorem last_any (s m n : Nat) (f l : Int) (w : World) (h : SetAt w s m n f l) :
    Calls Tryd.prog 14 #[.pointer (some ⟨s, 0, none⟩)] w fun e w' => e = .returned (.int .i64 l) ∧ w' = w := by
  have h0 := h.c2
  go_enter Tryd.func14, Tryd.ntmps14
  go_wp2
  go_ret
  exact ⟨rfl, rfl⟩

theorem empty_any (s m n : Nat) (f l : Int) (w : World) (h : SetAt w s m n f l) :
    Calls Tryd.prog 31 #[.pointer (some ⟨s, 0, none⟩)] w fun e w' => e = .returned (.bool (decide (l < f))) ∧ w' = w.drew := by
  have h1 := h.c1
  have h2 := h.c2
  clear h
  go_enter Tryd.func31, Tryd.ntmps31
  go_wp2
  go_region
  go_wp2
  go_ret
  exact ⟨rfl, rfl⟩

end Gl
end Go.Proofs.Qxb6615024aDoor
