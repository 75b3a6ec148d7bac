/-
  THE WALK of ZZTotalEval.
-/
import Derived.Test.Qxb6615471aFmtEval
namespace Go.Proofs.Qxb6615471aFmt
open Go.RowKit Go.Extern.Stop Go.Stop Go.Extern
set_option linter.unusedVariables false
namespace Fl

/-- the world in which ZZTotalEval calls eval -/
def tw (a : Option Addr) (n c : Nat) (low mi ot : Int) (w : World) : World :=
  ((w.alloc (.cells #[.int .u8 0, .string ⟨#[]⟩, .float .f64 0, .bool false, .slice none 0 0] 32)).alloc (.cells #[.slice a n c, .int .i64 low, .int .i64 mi, .int .i64 ot] 49)).alloc
    (.cells #[.slice none 0 0, .slice none 0 0, .slice (some ⟨w.heap.size + 1, 0, none⟩) 1 1, .slice none 0 0] 55)

theorem tw_kept (a : Option Addr) (n c : Nat) (low mi ot : Int) (w : World) : Kept w (tw a n c low mi ot w) [] := (((Kept.refl _ _).alloc _).alloc _).alloc _
theorem tw_size (a : Option Addr) (n c : Nat) (low mi ot : Int) (w : World) : (tw a n c low mi ot w).heap.size = w.heap.size + 3 := by simp [tw]

theorem tw_at (a : Option Addr) (n c : Nat) (low mi ot : Int) (w : World) : EnvAt (tw a n c low mi ot w) (w.heap.size + 2) (w.heap.size + 1) a n c low mi ot ∧
    (tw a n c low mi ot w).heap[w.heap.size]? = some (.cells #[.int .u8 0, .string ⟨#[]⟩, .float .f64 0, .bool false, .slice none 0 0] 32 (0, 0)) := by
  obtain ⟨o1, h1⟩ : ∃ o : Obj, o = .cells #[.int .u8 0, .string ⟨#[]⟩, .float .f64 0, .bool false, .slice none 0 0] 32 := ⟨_, rfl⟩
  obtain ⟨o2, h2⟩ : ∃ o : Obj, o = .cells #[.slice a n c, .int .i64 low, .int .i64 mi, .int .i64 ot] 49 := ⟨_, rfl⟩
  obtain ⟨o3, h3⟩ : ∃ o : Obj, o = .cells #[.slice none 0 0, .slice none 0 0, .slice (some ⟨w.heap.size + 1, 0, none⟩) 1 1, .slice none 0 0] 55 := ⟨_, rfl⟩
  have e0 : tw a n c low mi ot w = ((w.alloc o1).alloc o2).alloc o3 := by rw [h1, h2, h3]; rfl
  have s1 : (w.alloc o1).heap.size = w.heap.size + 1 := by simp
  have s2 : ((w.alloc o1).alloc o2).heap.size = w.heap.size + 2 := by simp
  have b1 := (MapKept.heap_alloc w o1).1
  have b2 := (MapKept.heap_alloc (w.alloc o1) o2).1
  have b3 := (MapKept.heap_alloc ((w.alloc o1).alloc o2) o3).1
  have k2 : Kept (w.alloc o1) ((w.alloc o1).alloc o2) [] := (Kept.refl _ _).alloc _
  have k3 : Kept ((w.alloc o1).alloc o2) (((w.alloc o1).alloc o2).alloc o3) [] := (Kept.refl _ _).alloc _
  rw [s1] at b2
  rw [s2] at b3
  have t2 := (k3.block (w.heap.size + 1) (by rw [s2]; omega) (by simp)).trans b2
  have t1 := ((k2.trans k3).block w.heap.size (by rw [s1]; omega) (by simp)).trans b1
  have hsz := tw_size a n c low mi ot w
  rw [e0] at hsz ⊢
  refine ⟨⟨?_, ?_, by omega, by omega⟩, ?_⟩
  · rw [h3] at b3
    rw [h3, cell_of_row _ _ 2 _ _ _ b3]
    rfl
  · rw [t2, h2]
  · rw [t1, h1]

/-- a value as ZZTotalEval hands it back -/
def valV (k : Int) (r : Nat) : Value := .agg #[.int .u8 k, .string ⟨#[]⟩, .float .f64 r, .bool false, .slice none 0 0]

set_option maxHeartbeats 4000000 in
set_option maxRecDepth 100000 in
theorem total_of (a : Option Addr) (n c : Nat) (low mi ot : Int) (w : World) (k : Int) (r : Nat) (Q : Value → Prop) (S S' : List Nat)
    (hev : Calls Tryf.prog 16 #[totalV, .pointer (some ⟨w.heap.size + 2, 0, none⟩)] (tw a n c low mi ot w) fun e w' => (∃ er, Q er ∧ e = .returned (.tuple #[valV k r, er])) ∧ Kept (tw a n c low mi ot w) w' S)
    (hS : ∀ b ∈ S, b ∈ S' ∨ w.heap.size ≤ b) (h0 : w.heap.size ∉ S) :
    Calls Tryf.prog 9 #[.slice a n c, .int .i64 low, .int .i64 mi, .int .i64 ot] w fun e w' => (∃ er, Q er ∧ e = .returned (.tuple #[valV k r, er])) ∧ Kept w w' S' := by
  have hev' : Hid (Calls Tryf.prog 16 #[totalV, .pointer (some ⟨w.heap.size + 1 + 1, 0, none⟩)] (tw a n c low mi ot w) fun e w' => (∃ er, Q er ∧ e = .returned (.tuple #[valV k r, er])) ∧ Kept (tw a n c low mi ot w) w' S) := hev
  have hk := hide (tw_kept a n c low mi ot w)
  have ha := hide (tw_at a n c low mi ot w).2
  have hz := hide (tw_size a n c low mi ot w)
  clear hev
  unfold totalV at hev'
  go_enter Tryf.func9, Tryf.ntmps9
  go_wp2_with fail
  rw [show ((w.alloc (.cells #[.int .u8 0, .string ⟨#[]⟩, .float .f64 0, .bool false, .slice none 0 0] 32)).alloc (.cells #[.slice a n c, .int .i64 low, .int .i64 mi, .int .i64 ot] 49)).alloc
    (.cells #[.slice none 0 0, .slice none 0 0, .slice (some ⟨w.heap.size + 1, 0, none⟩) 1 1, .slice none 0 0] 55) = tw a n c low mi ot w from rfl]
  refine hev'.out.mono ?_
  rintro e w1 ⟨⟨er, hq, rfl⟩, k1⟩
  have hb1 := (k1.block w.heap.size (by rw [hz.out]; omega) h0).trans ha.out
  have hK := hide ((hk.out.mono (S' := S') (by simp)).then k1 hS)
  obtain ⟨q0, q1, q2, q3, q4, f0, f1, f2, f3, f4⟩ := res_facts hb1
  clear hb1 k1 hev' ha hz hk
  unfold valV
  go_wp2
  refine bodyPost_ret (v := .tuple #[valV k r, er]) (by simp [results, Tryf.results9, go_sem, valV, q0, q1, q2, q3, q4]) rfl ⟨⟨er, hq, rfl⟩, ?_⟩
  have hle : w.heap.size ≤ w.heap.size := Nat.le_refl _
  exact ((((hK.out.setCell (p := ⟨_, 0, none⟩) (Or.inr hle) _).setCell (p := ⟨_, 1, none⟩) (Or.inr hle) _).setCell (p := ⟨_, 2, none⟩) (Or.inr hle) _).setCell (p := ⟨_, 3, none⟩) (Or.inr hle) _).setCell (p := ⟨_, 4, none⟩) (Or.inr hle) _

end Fl
end Go.Proofs.Qxb6615471aFmt
