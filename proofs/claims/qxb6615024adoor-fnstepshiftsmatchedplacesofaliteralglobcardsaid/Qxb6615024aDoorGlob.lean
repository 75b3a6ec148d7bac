/-
  THE PROGRAM OF A LITERAL GLOB IN MEMORY.
-/
import Derived.Test.Qxb6615024aDoorRead
namespace Go.Proofs.Qxb6615024aDoor
open Go.RowKit
set_option linter.unusedVariables false
namespace Gl

/-- block g holds a glob's program: no classes, no stars, no jumps, no covers; characters cs in ascending order; the places of the i-th: pl i. None of its blocks is on S. -/
structure PG (w : World) (S : List Nat) (g st ss jb cb cap ip ipc n : Nat) (cs : List Int) (pl : Nat → List Nat) : Prop where
  classes : w.cell? ⟨g, 1, none⟩ = some (.slice none 0 0)
  stars : w.cell? ⟨g, 4, none⟩ = some (.slice (some ⟨st, 0, none⟩) n n)
  slash : w.cell? ⟨g, 5, none⟩ = some (.slice (some ⟨ss, 0, none⟩) n n)
  jumps : w.cell? ⟨g, 7, none⟩ = some (.slice (some ⟨jb, 0, none⟩) n n)
  covers : w.cell? ⟨g, 8, none⟩ = some (.bool false)
  chars : w.cell? ⟨g, 11, none⟩ = some (.slice (some ⟨cb, 0, none⟩) cs.length cap)
  places : w.cell? ⟨g, 12, none⟩ = some (.slice (some ⟨ip, 0, none⟩) cs.length ipc)
  rst : Row w .u64 30 st n (List.replicate n 0)
  rss : Row w .u64 30 ss n (List.replicate n 0)
  rjb : Row w .u64 30 jb n (List.replicate n 0)
  ccs : Cl w .i32 cb 0 cs
  clen : cs.length ≤ 4096
  sorted : ∀ i j, i < j → j < cs.length → cs.getD i 0 < cs.getD j 0
  elem : ∀ i, i < cs.length → ∃ a cap', w.cell? ⟨ip, 2 * i, none⟩ = some (.slice a (pl i).length cap') ∧ w.cell? ⟨ip, 2 * i + 1, none⟩ = some (.slice none 0 0) ∧
    ∀ k, k < (pl i).length → ∃ ab, a = some ⟨ab, 0, none⟩ ∧ ab ∉ S ∧ ab < w.heap.size ∧ Cl w .i32 ab 0 ((pl i).map Int.ofNat)
  plen : ∀ i, i < cs.length → (pl i).length ≤ 4096 ∧ ∀ p ∈ pl i, p + 1 < 64 * n
  gS : g ∉ S ∧ g < w.heap.size
  sS : st ∉ S ∧ ss ∉ S ∧ jb ∉ S
  cS : cb ∉ S ∧ cb < w.heap.size
  iS : ip ∉ S ∧ ip < w.heap.size

theorem PG.kept {w w' : World} {S : List Nat} {g st ss jb cb cap ip ipc n : Nat} {cs : List Int} {pl : Nat → List Nat} (h : PG w S g st ss jb cb cap ip ipc n cs pl) (k : Kept w w' S) : PG w' S g st ss jb cb cap ip ipc n cs pl := by
  have hs := k.size
  have hg : ∀ o, w'.cell? ⟨g, o, none⟩ = w.cell? ⟨g, o, none⟩ := fun o => k.cell (p := ⟨g, o, none⟩) h.gS.2 h.gS.1
  have hi : ∀ o, w'.cell? ⟨ip, o, none⟩ = w.cell? ⟨ip, o, none⟩ := fun o => k.cell (p := ⟨ip, o, none⟩) h.iS.2 h.iS.1
  exact ⟨(hg _).trans h.classes, (hg _).trans h.stars, (hg _).trans h.slash, (hg _).trans h.jumps, (hg _).trans h.covers, (hg _).trans h.chars, (hg _).trans h.places,
    h.rst.kept k h.sS.1, h.rss.kept k h.sS.2.1, h.rjb.kept k h.sS.2.2, h.ccs.kept k h.cS.2 h.cS.1, h.clen, h.sorted,
    fun i hi' => by
      obtain ⟨a, cap', e1, e2, e3⟩ := h.elem i hi'
      exact ⟨a, cap', (hi _).trans e1, (hi _).trans e2, fun j hj => by
        obtain ⟨ab, e4, e5, e6, e7⟩ := e3 j hj
        exact ⟨ab, e4, e5, by omega, e7.kept k e6 e5⟩⟩,
    h.plen, ⟨h.gS.1, by have := h.gS.2; omega⟩, h.sS, ⟨h.cS.1, by have := h.cS.2; omega⟩, ⟨h.iS.1, by have := h.iS.2; omega⟩⟩

theorem rep_cell {w : World} {b n : Nat} (h : Row w .u64 30 b n (List.replicate n 0)) (i : Nat) (hi : i < n) : w.cell? ⟨b, i, none⟩ = some (.int .u64 0) := by
  have := h.cell i (by simpa using hi)
  rw [this]
  simp [List.getD_eq_getElem?_getD, hi]

end Gl
end Go.Proofs.Qxb6615024aDoor
