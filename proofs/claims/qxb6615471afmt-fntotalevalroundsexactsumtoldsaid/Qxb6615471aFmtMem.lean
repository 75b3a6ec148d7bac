/-
  MEMORY: 'Kept w w' S': of what was there only the blocks on S may have turned; 'Row w k T b cap zs': block b is a row of cap cells whose first ones hold the numbers zs.
-/
import Derived.Test.Qxb6615471aFmtBits
import Derived.WalkKit
import Derived.OpenShut
import Derived.Deep.QuietTactic
namespace Go.Proofs.Qxb6615471aFmt.Fl
open Go.RowKit
set_option linter.unusedVariables false

structure Kept (w w' : World) (S : List Nat) : Prop where
  os : w'.os = w.os
  tape : w'.tape = w.tape
  output : w'.output = w.output
  size : w.heap.size ≤ w'.heap.size
  block : ∀ i, i < w.heap.size → i ∉ S → w'.heap[i]? = w.heap[i]?

theorem Kept.refl (w : World) (S : List Nat) : Kept w w S := ⟨rfl, rfl, rfl, Nat.le_refl _, fun _ _ _ => rfl⟩
theorem Kept.trans {a b c : World} {S : List Nat} (h : Kept a b S) (k : Kept b c S) : Kept a c S :=
  ⟨k.os.trans h.os, k.tape.trans h.tape, k.output.trans h.output, Nat.le_trans h.size k.size, fun i hi hn => (k.block i (Nat.lt_of_lt_of_le hi h.size) hn).trans (h.block i hi hn)⟩
theorem Kept.mono {a b : World} {S S' : List Nat} (h : Kept a b S) (hs : ∀ x ∈ S, x ∈ S') : Kept a b S' :=
  ⟨h.os, h.tape, h.output, h.size, fun i hi hn => h.block i hi (fun k => hn (hs i k))⟩
/-- what was made on the way does not count -/
theorem Kept.then {a b c : World} {S S' : List Nat} (h : Kept a b S) (k : Kept b c S') (hs : ∀ x ∈ S', x ∈ S ∨ a.heap.size ≤ x) : Kept a c S :=
  ⟨k.os.trans h.os, k.tape.trans h.tape, k.output.trans h.output, Nat.le_trans h.size k.size, fun i hi hn => (k.block i (Nat.lt_of_lt_of_le hi h.size) (fun m => by rcases hs i m with g | g; exact hn g; omega)).trans (h.block i hi hn)⟩
theorem Kept.drew {a b : World} {S : List Nat} (h : Kept a b S) : Kept a b.drew S := ⟨h.os, h.tape, h.output, h.size, h.block⟩
theorem Kept.drewN {a b : World} {S : List Nat} (h : Kept a b S) : ∀ n, Kept a (b.drewN n) S
  | 0 => h
  | n + 1 => by
    have := Kept.drewN h n
    exact ⟨this.os, this.tape, this.output, this.size, this.block⟩
theorem Kept.alloc {a b : World} {S : List Nat} (h : Kept a b S) (o : Obj) : Kept a (b.alloc o) S :=
  ⟨h.os, h.tape, h.output, by have := h.size; show _ ≤ (b.heap.push _).size; rw [Array.size_push]; omega, fun i hi hn => (Below.heap_alloc _ _ _ (Nat.lt_of_lt_of_le hi h.size)).trans (h.block i hi hn)⟩
theorem Kept.setCell {a b : World} {S : List Nat} (h : Kept a b S) {p : Addr} (hp : p.block ∈ S ∨ a.heap.size ≤ p.block) (u : Value) : Kept a (b.setCell p u) S :=
  ⟨h.os, h.tape, h.output, by have := h.size; simpa [World.setCell] using this, fun i hi hn => (Below.heap_setCell _ _ _ _ (fun e => by rcases hp with g | g; exact hn (e ▸ g); omega)).trans (h.block i hi hn)⟩
theorem Kept.of_below {w w' : World} (h : Below w.heap.size w w') : Kept w w' [] := ⟨h.os, h.tape, h.output, h.size, fun i hi _ => h.block i hi⟩
theorem Kept.below {w w' : World} {S : List Nat} (h : Kept w w' S) {B : Nat} (hB : B ≤ w.heap.size) (hS : ∀ x ∈ S, B ≤ x) : Below B w w' :=
  ⟨h.os, h.tape, h.output, h.size, fun i hi => h.block i (by omega) (fun m => by have := hS i m; omega)⟩
theorem Kept.of_grown {w w' : World} {b : Nat} (h : w.grownBy w' (some b)) : Kept w w' [b] := ⟨h.os, h.tape, h.output, h.size, fun i hi hn => h.block i hi (fun e => hn (by simp at e; simp [e]))⟩
theorem Kept.of_grown0 {w w' : World} (h : w.grownBy w' none) : Kept w w' [] := ⟨h.os, h.tape, h.output, h.size, fun i hi hn => h.block i hi (by simp)⟩
theorem Kept.cell {w w' : World} {S : List Nat} (h : Kept w w' S) {p : Addr} (hp : p.block < w.heap.size) (hn : p.block ∉ S) : w'.cell? p = w.cell? p := World.cell?_of_block (h.block p.block hp hn)
theorem Kept.frozen {w w' : World} {S : List Nat} (h : Kept w w' S) {p : Addr} (hp : p.block < w.heap.size) (hn : p.block ∉ S) : w'.frozen? p = w.frozen? p := World.frozen?_of_block (h.block p.block hp hn)

/-! ### rows -/
def Row (w : World) (k : IntKind) (T : TypeId) (b cap : Nat) (zs : List Int) : Prop :=
  ∃ rest : List Value, w.heap[b]? = some (.cells (zs.map (Value.int k) ++ rest).toArray T (0, 0)) ∧ zs.length + rest.length = cap

/-- the cells of a slice of integers, wherever they lie -/
def Cl (w : World) (k : IntKind) (b off : Nat) (zs : List Int) : Prop := ∀ i, i < zs.length → w.cell? ⟨b, off + i, none⟩ = some (.int k (zs.getD i 0))

section
variable {w w' : World} {k : IntKind} {T : TypeId} {b cap : Nat} {zs : List Int}

theorem Row.lt (h : Row w k T b cap zs) : b < w.heap.size := by
  obtain ⟨r, h, _⟩ := h
  exact (Array.getElem?_eq_some_iff.1 h).1
theorem Row.len (h : Row w k T b cap zs) : zs.length ≤ cap := by
  obtain ⟨r, _, h⟩ := h
  omega
theorem Row.of_block (h : Row w k T b cap zs) (e : w'.heap[b]? = w.heap[b]?) : Row w' k T b cap zs := by
  obtain ⟨r, h, hl⟩ := h
  exact ⟨r, e.trans h, hl⟩
theorem Row.kept {S : List Nat} (h : Row w k T b cap zs) (hk : Kept w w' S) (hn : b ∉ S) : Row w' k T b cap zs := h.of_block (hk.block b h.lt hn)
theorem Row.drew (h : Row w k T b cap zs) : Row w.drew k T b cap zs := h
theorem Row.alloc (h : Row w k T b cap zs) (o : Obj) : Row (w.alloc o) k T b cap zs := h.kept ((Kept.refl w []).alloc o) (by simp)
theorem Row.cell (h : Row w k T b cap zs) (i : Nat) (hi : i < zs.length) : w.cell? ⟨b, i, none⟩ = some (.int k (zs.getD i 0)) := by
  obtain ⟨r, h, _⟩ := h
  have e : w.cell? ⟨b, i, none⟩ = (zs.map (Value.int k) ++ r).toArray[i]? := cell_of_row w b i _ _ _ h
  rw [e]
  simp [List.getElem?_append_left, hi, List.getD_eq_getElem?_getD]
theorem Row.cl (h : Row w k T b cap zs) : Cl w k b 0 zs := fun i hi => by rw [Nat.zero_add]; exact h.cell i hi
theorem Row.frozen (h : Row w k T b cap zs) (i : Nat) : w.frozen? ⟨b, i, none⟩ = false := by
  obtain ⟨r, h, _⟩ := h
  simp [World.frozen?, h]
theorem Row.set (h : Row w k T b cap zs) (i : Nat) (hi : i < zs.length) (v : Int) : Row (w.setCell ⟨b, i, none⟩ (.int k v)) k T b cap (zs.set i v) := by
  have hlt := h.lt
  obtain ⟨r, h, hl⟩ := h
  refine ⟨r, ?_, by simpa using hl⟩
  have e : (w.setCell ⟨b, i, none⟩ (.int k v)).heap[b]? = some (.cells ((zs.map (Value.int k) ++ r).toArray.setIfInBounds i (.int k v)) T (0, 0)) := by
    simp only [World.setCell, Array.getElem?_modify, h]
    simp
  rw [e]
  simp only [Option.some.injEq]
  congr 1
  apply Array.ext'
  simp [List.map_set]
  rw [List.set_append_left _ _ (by simpa using hi)]
theorem Row.setOther (h : Row w k T b cap zs) {p : Addr} (hp : p.block ≠ b) (v : Value) : Row (w.setCell p v) k T b cap zs :=
  h.of_block (Below.heap_setCell _ _ _ _ (fun e => hp e.symm))
theorem Row.owns (h : Row w k T b cap zs) (hc : cap ≤ maxLen) : w.ownsRow 0 T 1 (.slice (some ⟨b, 0, none⟩) zs.length cap) zs.length (zs.map (Value.int k)) := by
  have hl := h.len
  obtain ⟨r, h, hr⟩ := h
  refine ⟨by simp, .inr ⟨b, cap, _, rfl, Nat.zero_le _, h, hl, hc, by simp; omega, ?_⟩⟩
  simp
theorem Row.of_owns {n : Nat} (h : w.ownsRow 0 T 1 (.slice (some ⟨b, 0, none⟩) n cap) n (zs.map (Value.int k))) (hn : zs.length = n) : Row w k T b cap zs := by
  rcases h.2 with ⟨e, _⟩ | ⟨g, cap', cur, e, _, hg, hnc, hcm, hcs, htake⟩
  · cases e
  · simp at e
    obtain ⟨rfl, rfl⟩ := e
    refine ⟨cur.toList.drop n, ?_, ?_⟩
    · rw [hg, ← htake]
      simp [Nat.mul_one]
    · simp [hn]
      omega
end

theorem Cl.kept {w w' : World} {k : IntKind} {b off : Nat} {zs : List Int} {S : List Nat} (h : Cl w k b off zs) (hk : Kept w w' S) (hb : b < w.heap.size) (hn : b ∉ S) : Cl w' k b off zs :=
  fun i hi => (hk.cell (p := ⟨b, off + i, none⟩) hb hn).trans (h i hi)

/-- what 'make' lays -/
theorem made_ints (k : IntKind) (n : Nat) : (madeCells #[Value.int k 0] n).toList = (List.replicate n 0).map (Value.int k) := by
  apply List.ext_getElem
  · simp [madeCells]
  · intro i h1 h2
    simp [madeCells, Nat.mod_one]
theorem Row.made (w : World) (k : IntKind) (T : TypeId) (n : Nat) : Row (w.alloc (.cells (madeCells #[Value.int k 0] n) T)) k T w.heap.size n (List.replicate n 0) := by
  refine ⟨[], ?_, by simp⟩
  rw [(MapKept.heap_alloc w _).1, List.append_nil, ← made_ints]

end Go.Proofs.Qxb6615471aFmt.Fl
