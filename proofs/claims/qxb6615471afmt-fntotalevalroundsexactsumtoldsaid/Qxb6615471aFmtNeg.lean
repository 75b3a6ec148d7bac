/-
  THE WALKS of cover, carry, negate.
-/
import Derived.Test.Qxb6615471aFmtMag
import Derived.Maps.AppendAt
import Derived.LoopN
import Derived.OwnWalk
namespace Go.Proofs.Qxb6615471aFmt
open Go.RowKit
set_option linter.unusedVariables false
namespace Fl

theorem Tryf.info2 : (Tryf.prog.info? 2).map (fun i => (i.zero, i.size, i.bytes)) = some (some (.int .i64 0), 1, 8) := by kernel_rfl

theorem Kept.of_row {w w' : World} {row : Option Nat} (h : w.grownBy w' row) : Kept w w' row.toList := ⟨h.os, h.tape, h.output, h.size, fun i hi hn => h.block i hi (fun e => hn (by rw [← e]; simp))⟩

/-- a tally whose sum is being turned: of what was there only its own block and its first digits' may have turned -/
structure NS (w0 : World) (T D0 : Nat) (low mi ot : Int) (W : World) (D n cap : Nat) (zs : List Int) : Prop where
  sum : SumAt W T D n cap low mi ot
  row : Row W .i64 2 D cap zs
  len : zs.length = n
  ne : T ≠ D
  capm : cap ≤ maxLen
  own : D = D0 ∨ w0.heap.size ≤ D
  kept : Kept w0 W [T, D0]

section
variable {w0 W W' : World} {T D0 D n cap : Nat} {low mi ot : Int} {zs : List Int}
theorem NS.set (h : NS w0 T D0 low mi ot W D n cap zs) (i : Nat) (hi : i < n) (v : Int) : NS w0 T D0 low mi ot (W.setCell ⟨D, i, none⟩ (.int .i64 v)) D n cap (zs.set i v) :=
  ⟨h.sum.setOther (p := ⟨D, i, none⟩) (fun e => h.ne e.symm) _, h.row.set i (by rw [h.len]; exact hi) v, by simpa using h.len, h.ne, h.capm, h.own, h.kept.setCell (p := ⟨D, i, none⟩) (h.own.elim (fun e => Or.inl (by simp [e])) (fun e => Or.inr e)) _⟩
theorem NS.drewN (h : NS w0 T D0 low mi ot W D n cap zs) (q : Nat) : NS w0 T D0 low mi ot (W.drewN q) D n cap zs := by
  have k : Kept W (W.drewN q) [] := (Kept.refl _ _).drewN q
  exact ⟨h.sum.kept k (by simp), h.row.kept k (by simp), h.len, h.ne, h.capm, h.own, h.kept.drewN q⟩
theorem NS.drew (h : NS w0 T D0 low mi ot W D n cap zs) : NS w0 T D0 low mi ot W.drew D n cap zs := h.drewN 1

/-- behind an append: the new row, the slice stored -/
theorem NS.grow (h : NS w0 T D0 low mi ot W D n cap zs) (o : Obj) (d : Int) (v' : Value) (w1 : World) (hown : w1.ownsRow 0 2 1 v' (n + 1) (zs.map (Value.int .i64) ++ [.int .i64 d])) (hg : (W.alloc o).grownBy w1 (some D))
    (hl : v'.ownBlock = some D ∨ v'.ownBlock = some (W.alloc o).heap.size) :
    ∃ D' cap', v' = .slice (some ⟨D', 0, none⟩) (n + 1) cap' ∧ w1.frozen? ⟨T, 0, none⟩ = false ∧ w1.cell? ⟨T, 0, none⟩ = some (.slice (some ⟨D, 0, none⟩) n cap) ∧ NS w0 T D0 low mi ot (w1.setCell ⟨T, 0, none⟩ (.slice (some ⟨D', 0, none⟩) (n + 1) cap')) D' (n + 1) cap' (zs ++ [d]) := by
  rcases hown.2 with ⟨e, _⟩ | ⟨g, cap', cur, rfl, _, hgb, hnc, hcm, hcs, htake⟩
  · subst e
    simp [Value.ownBlock] at hl
  · have k1 : Kept (W.alloc o) w1 [D] := Kept.of_row hg
    have s1 := (h.sum.alloc o).kept k1 (by simp [h.ne])
    have hgD : g = D ∨ g = W.heap.size + 1 := by
      simp [Value.ownBlock] at hl
      rcases hl with e | e
      · exact Or.inl e
      · exact Or.inr e
    have hlt := h.sum.lt
    have hle := h.kept.size
    have hTg : T ≠ g := by
      rcases hgD with e | e
      · rw [e]; exact h.ne
      · omega
    have hr : Row w1 .i64 2 g cap' (zs ++ [d]) := Row.of_owns (n := n + 1) (by simpa using hown) (by simp [h.len])
    refine ⟨g, cap', rfl, s1.frozen 0, s1.c0, s1.set0 g (n + 1) cap', hr.setOther (p := ⟨T, 0, none⟩) hTg _, by simp [h.len], hTg, hcm, ?_, ?_⟩
    · rcases hgD with e | e
      · rw [e]; exact h.own
      · exact Or.inr (by omega)
    · refine Kept.setCell ?_ (Or.inl (by simp)) _
      exact (h.kept.alloc o).then k1 (fun x hx => by
        simp at hx
        subst hx
        rcases h.own with e | e
        · exact Or.inl (by simp [e])
        · exact Or.inr e)
end

/-- one digit more, of the same value -/
def cov (zs : List Int) : List Int := if zs.getD (zs.length - 1) 0 < 0 then zs.set (zs.length - 1) (zs.getD (zs.length - 1) 0 + 4294967296) ++ [-1] else zs ++ [0]

theorem val_cov (zs : List Int) (h : zs ≠ []) : val (cov zs) = val zs := by
  have hl : 0 < zs.length := List.length_pos_iff.2 h
  unfold cov
  split
  · rw [val_snoc, val_set _ _ _ (by omega), List.length_set]
    have e : (4294967296 : Int) ^ zs.length = 4294967296 ^ (zs.length - 1) * 4294967296 := by rw [← Int.pow_succ]; congr 1; omega
    rw [e, show zs.getD (zs.length - 1) 0 + 4294967296 - zs.getD (zs.length - 1) 0 = 4294967296 by omega]
    omega
  · rw [val_snoc]
    omega

set_option maxHeartbeats 4000000 in
set_option maxRecDepth 100000 in
theorem cover_any (w0 : World) (T D0 D n cap : Nat) (low mi ot : Int) (zs : List Int) (W : World) (h : NS w0 T D0 low mi ot W D n cap zs) (hn1 : 1 ≤ n) (hn : n ≤ 1048576) (hl1 : -34 ≤ low) (hl2 : low ≤ 1048576) (hb : ∀ i, i < n → -4294967296 < zs.getD i 0 ∧ zs.getD i 0 < 4294967296) :
    Calls Tryf.prog 30 #[.pointer (some ⟨T, 0, none⟩), .int .i64 low, .int .i64 (low + n)] W fun e w' => e = .returned (.tuple #[]) ∧ ∃ D' cap', NS w0 T D0 low mi ot w' D' (n + 1) cap' (cov zs) := by
  obtain ⟨i0, hi, hz0, hz1, hz2⟩ := info_parts Tryf.info2
  have c0 := h.sum.c0
  have c1 := h.sum.c1
  obtain ⟨m, rfl⟩ : ∃ m, n = m + 1 := ⟨n - 1, by omega⟩
  have cl := h.row.cell m (by rw [h.len]; omega)
  obtain ⟨y, hy⟩ : ∃ y, y = zs.getD m 0 := ⟨_, rfl⟩
  rw [← hy] at cl
  have hyb := hb m (by omega)
  rw [← hy] at hyb
  clear hb
  go_enter Tryf.func30, Tryf.ntmps30
  have hl3 : low ≤ low := Int.le_refl _
  have HY := hide hy
  clear hy
  go_wp2
  refine wp_loop_rounds 2 ?_
  rw [rounds_succ]
  go_wp2
  go_region
  have h1 := h.drew
  have HH := hide h
  clear h c0 c1 cl
  have c0 := h1.sum.c0
  have c1 := h1.sum.c1
  have cl := h1.row.cell m (by rw [h1.len]; omega)
  rw [← HY.out] at cl
  generalize W.drew = W1 at *
  have hcov : Hid (cov zs = if y < 0 then zs.set m (y + 4294967296) ++ [-1] else zs ++ [0]) := by
    show cov zs = _
    unfold cov
    rw [h1.len, show m + 1 - 1 = m from rfl, ← HY.out]
  by_cases y0 : y < 0
  · have h3 := h1.set m (by omega) (y + 4294967296)
    have fl := h1.row.frozen m
    go_upto_region 12 with fail
    generalize W1.setCell ⟨D, m, none⟩ (.int .i64 (y + 4294967296)) = W2 at *
    have e3 := h3.sum.c0
    have hown := h3.row.owns h3.capm
    rw [h3.len] at hown
    go_wp2_with (at_builtin; refine wpList_append_own_at _ rfl _ _ 22 rfl 0 2 i0 (.int .i64 0) 1 8 Tryf.underlying22 hi hz0 hz1 hz2 rfl (by decide) _ _ _ rfl (hown.alloc _) ⟨W2.heap.size, 0, none⟩ 1 1 [.int .i64 (-1)] rfl rfl (cell_one_new _ _ _) (ints_oneCell .i64 [-1]) (by unfold maxLen; omega) (by omega) (by simp) ?_; intro v' w1 hown1 hgrow1 hnil1 hloc1; obtain ⟨D', cap', rfl, f0, e0, h2⟩ := h3.grow _ (-1) v' w1 (by simpa using hown1) hgrow1 hloc1; have e1 := h2.sum.c0; have e2 := h2.sum.c1; clear hown1 hgrow1 hnil1 hloc1)
    rw [rounds_succ]
    have h4 := h2.drew
    go_wp2
    go_region
    go_wp2
    go_end0
    exact ⟨rfl, D', cap', by rw [hcov.out, if_pos (by omega)]; exact h4⟩
  · have hown := h1.row.owns h1.capm
    rw [h1.len] at hown
    go_wp2_with (at_builtin; refine wpList_append_own_at _ rfl _ _ 22 rfl 0 2 i0 (.int .i64 0) 1 8 Tryf.underlying22 hi hz0 hz1 hz2 rfl (by decide) _ _ _ rfl (hown.alloc _) ⟨W1.heap.size, 0, none⟩ 1 1 [.int .i64 0] rfl rfl (cell_one_new _ _ _) (ints_oneCell .i64 [0]) (by unfold maxLen; omega) (by omega) (by simp) ?_; intro v' w1 hown1 hgrow1 hnil1 hloc1; obtain ⟨D', cap', rfl, f0, e0, h2⟩ := h1.grow _ 0 v' w1 (by simpa using hown1) hgrow1 hloc1; have e1 := h2.sum.c0; have e2 := h2.sum.c1; clear hown1 hgrow1 hnil1 hloc1)
    rw [rounds_succ]
    have h4 := h2.drew
    go_wp2
    go_region
    go_wp2
    go_end0
    exact ⟨rfl, D', cap', by rw [hcov.out, if_neg (by omega)]; exact h4⟩

end Fl
end Go.Proofs.Qxb6615471aFmt
