/-
  THE WALK of zzLiteralPlaces: for each character its places.
-/
import Derived.Test.Qxb6615024aDoorChars
namespace Go.Proofs.Qxb6615024aDoor
open Go.RowKit
set_option linter.unusedVariables false
namespace Gl

theorem Tryd.info22 : (Tryd.prog.info? 22).map (fun i => (i.zero, i.size, i.bytes)) = some (some (.slice none 0 0), 1, 24) := by kernel_rfl

/-- the places below p that hold c -/
def pos (zs : List Int) (c : Int) (p : Nat) : List Nat := (List.range p).filter (fun j => zs.getD j 0 == c)

theorem pos_succ (zs : List Int) (c : Int) (p : Nat) : pos zs c (p + 1) = if zs.getD p 0 == c then pos zs c p ++ [p] else pos zs c p := by
  unfold pos
  have e : [p].filter (fun j => zs.getD j 0 == c) = if zs.getD p 0 == c then [p] else [] := by
    rw [List.filter_cons, List.filter_nil]
  rw [List.range_succ, List.filter_append, e]
  split
  · rfl
  · simp
theorem pos_len (zs : List Int) (c : Int) (p : Nat) : (pos zs c p).length ≤ p := by
  unfold pos
  have := List.length_filter_le (fun j => zs.getD j 0 == c) (List.range p)
  simpa using this
theorem mem_pos (zs : List Int) (c : Int) (p q : Nat) : q ∈ pos zs c p ↔ (q < p ∧ zs.getD q 0 = c) := by
  unfold pos
  simp [List.mem_filter, beq_iff_eq]

theorem Kept.of_row {w w' : World} {row : Option Nat} (h : w.grownBy w' row) : Kept w w' row.toList := ⟨h.os, h.tape, h.output, h.size, fun i hi hn => h.block i hi (fun e => hn (by rw [← e]; simp))⟩

/-- the cells of the list of places -/
def pv (ps : List Nat) : List Value := ps.map (fun (p : Nat) => Value.int .i32 (p : Int))

/-- v is a slice of the numbers ps, none of it in block Bp, all of it from base on -/
def PlOk (w : World) (base Bp : Nat) (v : Value) (ps : List Nat) : Prop :=
  ∃ a cap, v = .slice a ps.length cap ∧ ∀ k, k < ps.length → ∃ ab, a = some ⟨ab, 0, none⟩ ∧ ab ≠ Bp ∧ base ≤ ab ∧ ab < w.heap.size ∧ Cl w .i32 ab 0 (ps.map Int.ofNat)

theorem PlOk.kept {w w' : World} {base Bp : Nat} {v : Value} {ps : List Nat} (h : PlOk w base Bp v ps) (k : Kept w w' [Bp]) : PlOk w' base Bp v ps := by
  obtain ⟨a, cap, e, hk⟩ := h
  refine ⟨a, cap, e, fun j hj => ?_⟩
  obtain ⟨ab, e1, e2, e3, e4, e5⟩ := hk j hj
  have := k.size
  exact ⟨ab, e1, e2, e3, by omega, e5.kept k e4 (by simpa using e2)⟩

theorem PlOk.of_owns {w : World} {base B Bp : Nat} {v : Value} {ps : List Nat} (h : w.ownsRow B 21 1 v ps.length (pv ps)) (hB : base ≤ B) (hBp : Bp < B) : PlOk w base Bp v ps := by
  rcases h.2 with ⟨e, h0⟩ | ⟨g, cap, cur, e, hg, hblk, hnc, hcm, hcs, htake⟩
  · exact ⟨none, 0, by rw [h0]; exact e, fun k hk => by omega⟩
  · refine ⟨_, cap, e, fun k hk => ⟨g, rfl, by omega, by omega, (Array.getElem?_eq_some_iff.1 hblk).1, fun i hi => ?_⟩⟩
    rw [Nat.zero_add, cell_of_row w g i cur _ _ hblk]
    rw [List.length_map] at hi
    have e1 : cur.toList[i]? = (pv ps)[i]? := by
      rw [← htake, List.getElem?_take_of_lt (by omega)]
    rw [← Array.getElem?_toList, e1]
    simp [pv, hi, List.getD_eq_getElem?_getD]

/-- a row of whatever values -/
def VRow (w : World) (T : TypeId) (b : Nat) (vs : List Value) : Prop := w.heap[b]? = some (.cells vs.toArray T (0, 0))
section
variable {w w' : World} {T : TypeId} {b : Nat} {vs : List Value}
theorem VRow.lt (h : VRow w T b vs) : b < w.heap.size := (Array.getElem?_eq_some_iff.1 h).1
theorem VRow.of_block (h : VRow w T b vs) (e : w'.heap[b]? = w.heap[b]?) : VRow w' T b vs := e.trans h
theorem VRow.kept {S : List Nat} (h : VRow w T b vs) (hk : Kept w w' S) (hn : b ∉ S) : VRow w' T b vs := h.of_block (hk.block b h.lt hn)
theorem VRow.cell (h : VRow w T b vs) (i : Nat) (hi : i < vs.length) : w.cell? ⟨b, i, none⟩ = some (vs.getD i undef) := by
  rw [cell_of_row w b i _ _ _ h]
  simp [hi, List.getD_eq_getElem?_getD]
theorem VRow.frozen (h : VRow w T b vs) (i : Nat) : w.frozen? ⟨b, i, none⟩ = false := by simp [World.frozen?, show w.heap[b]? = _ from h]
theorem VRow.set (h : VRow w T b vs) (i : Nat) (v : Value) : VRow (w.setCell ⟨b, i, none⟩ v) T b (vs.set i v) := by
  have h' : w.heap[b]? = _ := h
  unfold VRow
  simp only [World.setCell, Array.getElem?_modify, h']
  simp
end

theorem made_rep (z : Value) (n : Nat) : (madeCells #[z] n).toList = List.replicate n z := by
  apply List.ext_getElem
  · simp [madeCells]
  · intro i h1 h2
    simp [madeCells, Nat.mod_one]

theorem vgetD_set_eq (vs : List Value) (i : Nat) (v : Value) (h : i < vs.length) : (vs.set i v).getD i undef = v := by
  simp [List.getD_eq_getElem?_getD, h]
theorem vgetD_set_ne (vs : List Value) (i j : Nat) (v : Value) (h : i ≠ j) : (vs.set i v).getD j undef = vs.getD j undef := by
  simp [List.getD_eq_getElem?_getD, List.getElem?_set_ne h]

set_option maxHeartbeats 4000000 in
set_option maxRecDepth 100000 in
theorem places_any (a : Option Addr) (n cb ccap : Nat) (zs cs : List Int) (w : World) (hn : n ≤ 4096) (hp : PS w a n zs) (hcr : Row w .i32 21 cb ccap cs) (hcl : cs.length ≤ 4096) :
    Calls Tryd.prog 8 #[.slice a n n, .slice (some ⟨cb, 0, none⟩) cs.length ccap] w fun e w' => e = .returned (.slice (some ⟨w.heap.size, 0, none⟩) cs.length cs.length) ∧ Kept w w' [] ∧
      ∃ vs : List Value, VRow w' 22 w.heap.size vs ∧ vs.length = cs.length ∧ ∀ j, j < cs.length → PlOk w' w.heap.size w.heap.size (vs.getD j undef) (pos zs (cs.getD j 0) n) := by
  obtain ⟨i0, hi, hz0, hz1, hz2⟩ := info_parts Tryd.info21
  have hmk : ∀ w, (Instr.makeSlice 25 (.int .i64 (cs.length : Int)) (.int .i64 (cs.length : Int))).run Tryd.prog w = .ok (.slice (some ⟨w.heap.size, 0, none⟩) cs.length cs.length) (w.alloc (.cells (madeCells #[Value.slice none 0 0] cs.length) 22)) := by
    intro w
    obtain ⟨i1, hi1, hy0, hy1, hy2⟩ := info_parts Tryd.info22
    have := run_make (P := Tryd.prog) w 25 22 i1 (.slice none 0 0) Tryd.underlying25 hi1 hy0 .i64 .i64 (cs.length : Int) (cs.length : Int) (by omega) (by omega) (by rw [hy2]; omega) (by omega)
    rw [hy1] at this
    simpa [Value.cells] using this
  go_enter Tryd.func8, Tryd.ntmps8
  go_wp2
  go_loopw [6] (fun s6 wr => ∃ (k : Nat) (vs : List Value), s6 = .int .i64 k ∧ k ≤ cs.length ∧ VRow wr 22 w.heap.size vs ∧ vs.length = cs.length ∧ Kept w wr [] ∧ Hid (∀ j, j < k → PlOk wr w.heap.size w.heap.size (vs.getD j undef) (pos zs (cs.getD j 0) n))) (fun s6 _ => cs.length - (intOf s6).toNat)
  case atStart =>
    refine ⟨0, List.replicate cs.length (.slice none 0 0), rfl, Nat.zero_le _, ?_, by simp, (Kept.refl _ _).alloc _, fun j hj => absurd hj (Nat.not_lt_zero _)⟩
    unfold VRow
    rw [(MapKept.heap_alloc w _).1, ← made_rep]
  case round =>
    obtain ⟨k, vs, rfl, hk, hv, hvl, hkk, HP⟩ := hrel
    have hpk := hp.kept hkk
    have hck := hcr.kept hkk (by simp)
    clear hmk hp hcr
    by_cases hlt : k < cs.length
    · obtain ⟨c, hcc⟩ : ∃ c, c = cs.getD k 0 := ⟨_, rfl⟩
      have hc := hck.cell k hlt
      rw [← hcc] at hc
      have HC := hide' hcc
      clear hcc
      have hBp := hv.lt
      have lck := hck.lt
      go_upto_block 2 with fail
      go_cut [7] (fun s7 wx => ∃ a7 cap7, s7 = .slice a7 (pos zs c n).length cap7 ∧ Kept wr wx [] ∧ PlOk wx w.heap.size w.heap.size (.slice a7 (pos zs c n).length cap7) (pos zs c n))
      case first =>
        go_wp2_with fail
        go_loopw [7, 8] (fun s7 s8 wx => ∃ p : Nat, s8 = .int .i64 p ∧ p ≤ n ∧ Kept wr wx [] ∧ wx.ownsRow wr.heap.size 21 1 s7 (pos zs c p).length (pv (pos zs c p))) (fun _ s8 _ => n - (intOf s8).toNat)
        case atStart => exact ⟨0, rfl, Nat.zero_le _, Kept.refl _ _, World.ownsRow_nil _ _ _ _⟩
        case round =>
          obtain ⟨p, rfl, hpn, kx, hown⟩ := hrel
          have hpx := hpk.kept kx
          by_cases hlt2 : p < n
          · obtain ⟨pb, ea, hpb, hcp⟩ := ps_idx hpx p hlt2
            have hidx : ∀ W, (Instr.indexAt 22 (.slice a n n) (.int .i64 p)).run Tryd.prog W = .ok (.pointer (some ⟨pb, p, none⟩)) W := by
              intro W
              rw [ea]
              go_simp
            have hcx := (kx.cell (p := ⟨cb, k, none⟩) lck (by simp)).trans hc
            have HPS := hide' (pos_succ zs c p)
            have hpl := pos_len zs c p
            have hsz := kx.size
            have hwrap : IntKind.i32.wrap (p : Int) = (p : Int) := by simp [IntKind.wrap, IntKind.bits, IntKind.signed]; omega
            obtain ⟨y, hy⟩ : ∃ y, y = zs.getD p 0 := ⟨_, rfl⟩
            rw [← hy] at hcp
            have HY := hide' hy
            clear hy ea hpx
            cases hyc : (y == c)
            · have HE : Hid (pos zs c (p + 1) = pos zs c p) := by
                show pos zs c (p + 1) = pos zs c p
                rw [HPS.out, ← HY.out, hyc]
                rfl
              go_wp2
              go_quiet (fail)
              go_wp2
              go_roundw
              case rel => exact ⟨p + 1, by go_num, by omega, kx.drewN _, by rw [HE.out]; exact hown⟩
              case measure => simp [intOf]; omega
            · have HE : Hid (pos zs c (p + 1) = pos zs c p ++ [p]) := by
                show pos zs c (p + 1) = pos zs c p ++ [p]
                rw [HPS.out, ← HY.out, hyc]
                rfl
              have hcn : ∀ q j u, [Value.int .i32 (p : Int)][j]? = some u → ((wr.alloc (.cells #[Value.int .i32 (p : Int)] 21)).drewN q).cell? ((⟨wr.heap.size, 0, none⟩ : Addr).add j) = some u := fun q => cell_one_new wr _ _
              have hoa : ∀ q, ((wr.alloc (.cells #[Value.int .i32 (p : Int)] 21)).drewN q).ownsRow _ 21 1 _ (pos zs c p).length (pv (pos zs c p)) := fun q => hown.alloc _
              go_wp2
              go_quiet (fail)
              go_wp2_with (at_builtin; refine wpList_append_own _ rfl _ _ 22 rfl _ 21 i0 (.int .i32 0) 1 4 Tryd.underlying22 hi hz0 hz1 hz2 rfl (by decide) _ _ _ rfl (hoa _) ⟨wr.heap.size, 0, none⟩ 1 1 [.int .i32 p] rfl rfl (hcn _) (ints_oneCell .i32 [(p : Int)]) (by unfold maxLen; omega) (by omega) (by simp; omega) ?_; intro v' w1 hown' hgrow hnil)
              have hlt' := hown.lt
              clear hoa hcn hidx
              go_roundw
              case rel =>
                refine ⟨p + 1, by go_num, by omega, ?_, ?_⟩
                · exact ((kx.alloc _).drewN _).then (Kept.of_row hgrow) (fun x hx => Or.inr (hlt' x (by rw [Option.mem_toList] at hx; exact hx)).1)
                · rw [HE.out]
                  simpa [pv] using hown'
              case measure => simp [intOf]; omega
          · have e : p = n := by omega
            subst e
            have hPO := PlOk.of_owns (base := w.heap.size) (Bp := w.heap.size) hown (by have := hkk.size; omega) hBp
            have HPO := hide' hPO
            clear hpx hPO
            go_wp2
            go_meet
            obtain ⟨a7, cap7, e7, h7⟩ := HPO.out
            exact ⟨a7, cap7, e7, kx, a7, cap7, rfl, h7⟩
      case rest =>
      obtain ⟨a7, cap7, rfl, k7, hPO⟩ := hcut
      have hsz := k7.size
      have hv7 := hv.kept k7 (by simp)
      have c7 := hv7.cell k (by omega)
      have f7 := hv7.frozen k
      have HPO := hide' hPO
      have HOL : Hid (∀ j, j < k → PlOk wc w.heap.size w.heap.size (vs.getD j undef) (pos zs (cs.getD j 0) n)) := fun j hj => (HP.out j hj).kept (k7.mono (by simp))
      clear hPO hpk hck hc
      generalize vs.getD k undef = old at *
      go_wp2
      go_roundw
      case rel =>
        refine ⟨k + 1, vs.set k _, by go_num, by omega, hv7.set k _, by simpa using hvl, ((hkk.trans k7).setCell (Or.inr (Nat.le_refl _)) _), fun j hj => ?_⟩
        have kS : Kept wc (wc.setCell ⟨w.heap.size, k, none⟩ (.slice a7 (pos zs c n).length cap7)) [w.heap.size] := (Kept.refl wc _).setCell (Or.inl (by simp)) _
        by_cases e : k = j
        · subst e
          rw [vgetD_set_eq _ _ _ (by omega), ← HC.out]
          exact HPO.out.kept kS
        · rw [vgetD_set_ne _ _ _ _ e]
          exact (HOL.out j (by omega)).kept kS
      case measure => simp [intOf]; omega
    · clear hpk hck
      have e : k = cs.length := by omega
      have HP' : Hid (∀ j, j < cs.length → PlOk wr w.heap.size w.heap.size (vs.getD j undef) (pos zs (cs.getD j 0) n)) := by rw [← e]; exact HP.out
      clear e
      go_wp2
      go_ret
      exact ⟨rfl, hkk, vs, hv, hvl, HP'.out⟩

end Gl
end Go.Proofs.Qxb6615024aDoor
