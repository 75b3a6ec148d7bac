/-
  THE LAW 'FnReserveLeavesTheOldMapAlone': her walk out of the contracts.
-/
import Derived.Test.Qxb6615024aResWalks
namespace Go.Proofs.Qxb6615024a
open Go.RowKit Go.Maps
set_option linter.unusedVariables false
namespace Res

theorem isMap_Hd (z0 z1 : List Int) : ∀ n, IsMap (Hd z0 z1 n)
  | 0 => isMap_empty
  | n + 1 => (isMap_Hd z0 z1 n).put _ _

theorem has_Hd (z0 z1 : List Int) (f0 : ∀ m ∈ z0, (Lit.int .u64 m).wf = true) (k : Nat) : ∀ n, k < n → Maps.has (Hd z0 z1 n) (.int .u64 (z0.getD k 0)) = true
  | 0, h => absurd h (Nat.not_lt_zero _)
  | n + 1, h => by
    show Maps.has ((Hd z0 z1 n).put (.int .u64 (z0.getD n 0)) _) _ = true
    by_cases e : Lit.int .u64 (z0.getD k 0) = .int .u64 (z0.getD n 0)
    · rw [e]
      exact has_put_same (k := .int .u64 (z0.getD n 0)) (isMap_Hd z0 z1 n) trivial _
    · rw [has_put_other e]
      refine has_Hd z0 z1 f0 k n ?_
      rcases Nat.lt_succ_iff_lt_or_eq.1 h with h | h
      · exact h
      · subst h; exact absurd rfl e

/-- 'v, ok := m[k]' in both of its forms, at two maps that read alike -/
theorem looks {w : World} {b b' n n' : Nat} {D : DataW Unit} (h : w.ownsMap Try.prog 24 (plainElem Try.prog 3) b n D) (h' : w.ownsMap Try.prog 24 (plainElem Try.prog 3) b' n' D) (x : Int) (hx : (Lit.int .u64 x).wf = true) :
    ∃ c : Int, (Instr.lookup 26 (.map (some b)) (.int .u64 x) true).run Try.prog w = .ok (.tuple #[.int .i64 c, .bool (Maps.has D (.int .u64 x))]) w ∧
      (Instr.lookup 26 (.map (some b')) (.int .u64 x) true).run Try.prog w = .ok (.tuple #[.int .i64 c, .bool (Maps.has D (.int .u64 x))]) w ∧
      (Instr.lookup 26 (.map (some b')) (.int .u64 x) false).run Try.prog w = .ok (.int .i64 c) w := by
  have hkey : keyOf Try.prog 24 (.int .u64 x) = some (.int .u64 x) := keyOf_int_mk Try.underlying24 hx
  have hw0 : (Lit.int .i64 0).wf = true := by decide
  obtain ⟨v, ps, hrun, hv⟩ := h.look_ok law24 Try.underlying26 (zero3 w) (plainElem_int Try.underlying3 hw0) hkey
  obtain ⟨v', ps', hrun', hv'⟩ := h'.look_ok law24 Try.underlying26 (zero3 w) (plainElem_int Try.underlying3 hw0) hkey
  obtain ⟨c, rfl, hc, _⟩ := plainElem_int_inv Try.underlying3 hv
  obtain ⟨c', rfl, hc', _⟩ := plainElem_int_inv Try.underlying3 hv'
  obtain ⟨c'', hrun'', hat, _⟩ := h'.lookup_int law24 Try.underlying26 Try.underlying3 (zero3 w) hkey
  simp only [Prod.mk.injEq] at hc hc'
  have e1 : c' = c := by have := hc.1.symm.trans hc'.1; simp at this; exact this.symm
  have e2 : c'' = c := by have := hc.1.symm.trans hat; simp at this; exact this.symm
  subst e1 e2
  exact ⟨_, hrun, hrun', hrun''⟩

set_option maxHeartbeats 1000000 in
set_option maxRecDepth 100000 in
theorem law_full (a0 : Option Addr) (len0 cap0 : Nat) (z0 : List Int) (a1 : Option Addr) (len1 cap1 : Nat) (z1 : List Int) (a2 : Int) (a3 : Int) (w : World) (w0 : IsRow .u64 w a0 len0 cap0 z0) (w1 : IsRow .i64 w a1 len1 cap1 z1)
    (w2 : (Lit.int .u64 a2).wf = true) (w3 : (Lit.int .i64 a3).wf = true) (h0 : len0 ≤ 4096) (h1 : len1 ≤ 4096) (hn0 : 0 ≤ a3) (hn1 : a3 ≤ 65536) :
    Calls Try.prog 3 #[.slice a0 len0 cap0, .slice a1 len1 cap1, .int .u64 a2, .int .i64 a3] w fun e w' => e = .returned (.bool true) ∧ Below w.heap.size w w' := by
  go_enter Try.func3, Try.ntmps3
  go_wp2_with fail
  refine (bytes_yes _ _ _ _ _ _ _ _ _ (by omega)).mono ?_
  rintro e w' ⟨rfl, rfl⟩
  go_wp2_with fail
  refine (hm_any a0 len0 cap0 z0 a1 len1 cap1 z1 _ _ (Below.refl _ _) w0 w1 h0 h1).mono ?_
  rintro e W1 ⟨rfl, hown1, hb1⟩
  go_wp2_with fail
  refine (hm_any a0 len0 cap0 z0 a1 len1 cap1 z1 _ _ hb1 w0 w1 h0 h1).mono ?_
  rintro e W2 ⟨rfl, hown2, hb2⟩
  have hlt1 := hown1.lt
  have hlt2 := hown2.lt
  have own1 := hown1.kept (grown_of_below hb2) (by simp)
  have hb := hb1.trans (hb2.mono (by omega))
  have hz2 := hb.size
  generalize hD : Hd z0 z1 (min len0 len1) = D at *
  generalize hB1 : w'.heap.size = B1 at *
  generalize hB2 : W1.heap.size = B2 at *
  clear hown1 hb1 hb2
  go_wp2_with fail
  refine (new_said (some B1) _).mono ?_
  rintro e W3 ⟨rfl, c3, f3, hs3, b3⟩
  have own13 := own1.kept (grown_of_below b3) (by simp)
  have own23 := hown2.kept (grown_of_below b3) (by simp)
  have hb3 := hb.trans (b3.mono hz2)
  go_wp2_with fail
  refine (zres_said _ _ a3 _ c3 f3 hs3).mono ?_
  rintro e W4 ⟨rfl, c4, own4, g4⟩
  have own14 := own13.kept g4 (by simp; omega)
  have own24 := own23.kept g4 (by simp; omega)
  have hb4 := hb3.grown g4 (by omega) (fun j hj => by cases hj; omega)
  go_wp2_with fail
  refine (by_any _ _ _ c4).mono ?_
  rintro e w' ⟨rfl, rfl⟩
  have hg4 : B1 < W3.heap.size := by omega
  have hg4' : B2 < W3.heap.size := by omega
  generalize hG : W3.heap.size = G at *
  clear own1 hown2 own13 own23 c3 f3 b3 c4 g4 hb hb3
  have l4 : ∀ ty, (Builtin.len_ #[26] ty #[.map (some G)]).run Try.prog w' = .ok (.int .i64 0) w' := fun ty => own4.len Try.underlying26 ty
  have n4 := run_eql_map_nil w' 26 24 3 (some G) Try.underlying26
  have hkey : keyOf Try.prog 24 (.int .u64 a2) = some (.int .u64 a2) := keyOf_int_mk Try.underlying24 w2
  obtain ⟨W5, hrun5, own5, g5⟩ := own4.update (val := .int .i64 1) law24 Try.underlying26 (by unfold maxLen; omega) hkey (plainElem_int Try.underlying3 (by decide))
  have own15 := own14.kept g5 (by simp; omega)
  have own25 := own24.kept g5 (by simp; omega)
  have hb5 := hb4.grown g5 (by have := hb4.size; omega) (fun j hj => by cases hj; omega)
  have l5 : ∀ ty, (Builtin.len_ #[26] ty #[.map (some G)]).run Try.prog W5 = .ok (.int .i64 1) W5 := fun ty => own5.len Try.underlying26 ty
  have l15 := fun ty => own15.len Try.underlying26 ty
  have l25 := fun ty => own25.len Try.underlying26 ty
  obtain ⟨cp, p2, p1, _⟩ := looks own25 own15 a2 w2
  go_wp2_with fail
  go_loop [17] (fun i => ∃ k : Nat, k ≤ min len0 len1 ∧ i = .int .i64 k) (fun i => 4096 - (intOf i).toNat)
  case atStart => exact ⟨0, Nat.zero_le _, rfl⟩
  case round =>
    obtain ⟨k, hk, rfl⟩ := hrel
    clear l4 n4 hrun5 l5 l15 l25 p1 p2 own5 g5 own14 own24 own4 hb4
    by_cases hlt : k < len0 ∧ k < len1
    · obtain ⟨hl0, hl1⟩ := hlt
      rcases w0 with ⟨_, e, _⟩ | ⟨x0, e0, m0, n0, q0, c0, f0⟩
      · omega
      · obtain ⟨b0, o0, ex, d0⟩ := ints_at c0 (by omega)
        have hidx : (Instr.indexAt 22 (.slice a0 len0 cap0) (.int .i64 k)).run Try.prog W5 = .ok (.pointer (some ⟨b0, o0 + k, none⟩)) W5 := by
          rw [e0, ex]
          go_simp
        have t0 : b0 < B1 := by have := World.block_lt_of_cell? _ _ (d0 0 (by omega)); simpa [hB1] using this
        have g0 : W5.cell? ⟨b0, o0 + k, none⟩ = some (.int .u64 (z0.getD k 0)) := (hb5.cell (by exact t0)).trans (d0 k (by omega))
        have hh := has_Hd z0 z1 f0 k (min len0 len1) (by omega)
        rw [hD] at hh
        obtain ⟨c, r1, _, r2⟩ := looks own15 own25 (z0.getD k 0) (wf_getD f0 k)
        rw [hh] at r1
        generalize z0.getD k 0 = x at *
        clear d0 c0 f0 e0 ex own15 own25
        go_wp2
        go_round
        case rel => exact ⟨k + 1, by omega, by go_num⟩
        case measure => simp [intOf]; omega
    · by_cases hl0 : k < len0
      · have hl1 : len1 ≤ k := by omega
        clear hlt
        go_wp2
        go_ret
        exact ⟨rfl, hb5⟩
      · clear hlt
        go_wp2
        go_ret
        exact ⟨rfl, hb5⟩

theorem isRow_len {k : IntKind} {w : World} {a : Option Addr} {len cap : Nat} {zs : List Int} (h : IsRow k w a len cap zs) : len ≤ maxLen := by
  rcases h with ⟨_, e, _⟩ | ⟨x, _, l, m, _⟩
  · omega
  · omega

set_option maxHeartbeats 1000000 in
set_option maxRecDepth 100000 in
theorem law_early (a0 : Option Addr) (len0 cap0 : Nat) (a1 : Option Addr) (len1 cap1 : Nat) (a2 : Int) (a3 : Int) (w : World) (h0 : len0 ≤ maxLen) (h1 : len1 ≤ maxLen)
    (h : ¬ (len0 ≤ 4096 ∧ len1 ≤ 4096 ∧ 0 ≤ a3 ∧ a3 ≤ 65536)) :
    Calls Try.prog 3 #[.slice a0 len0 cap0, .slice a1 len1 cap1, .int .u64 a2, .int .i64 a3] w fun e w' => e = .returned (.bool true) ∧ w' = w := by
  by_cases hb : len0 + len1 ≤ 1048576
  · by_cases g0 : 4096 < len0
    · clear h
      go_enter Try.func3, Try.ntmps3
      go_wp2_with (go_at_call 6; refine (bytes_yes _ _ _ _ _ _ _ _ _ hb).mono ?_; rintro e w' ⟨rfl, rfl⟩)
      go_ret
      exact ⟨rfl, rfl⟩
    · by_cases g1 : 4096 < len1
      · clear h
        go_enter Try.func3, Try.ntmps3
        go_wp2_with (go_at_call 6; refine (bytes_yes _ _ _ _ _ _ _ _ _ hb).mono ?_; rintro e w' ⟨rfl, rfl⟩)
        go_ret
        exact ⟨rfl, rfl⟩
      · by_cases g2 : a3 < 0
        · clear h
          go_enter Try.func3, Try.ntmps3
          go_wp2_with (go_at_call 6; refine (bytes_yes _ _ _ _ _ _ _ _ _ hb).mono ?_; rintro e w' ⟨rfl, rfl⟩)
          go_ret
          exact ⟨rfl, rfl⟩
        · have g3 : 65536 < a3 := by omega
          clear h
          go_enter Try.func3, Try.ntmps3
          go_wp2_with (go_at_call 6; refine (bytes_yes _ _ _ _ _ _ _ _ _ hb).mono ?_; rintro e w' ⟨rfl, rfl⟩)
          go_ret
          exact ⟨rfl, rfl⟩
  · have hb' : 1048576 < len0 + len1 := by omega
    clear h hb
    unfold maxLen at h0 h1
    go_enter Try.func3, Try.ntmps3
    go_wp2_with (go_at_call 6; refine (bytes_no _ _ _ _ _ _ _ _ _ h0 h1 hb').mono ?_; rintro e w' ⟨rfl, rfl⟩)
    go_ret
    exact ⟨rfl, rfl⟩

theorem law_any (a0 : Option Addr) (len0 cap0 : Nat) (z0 : List Int) (a1 : Option Addr) (len1 cap1 : Nat) (z1 : List Int) (a2 : Int) (a3 : Int) (w : World) (w0 : IsRow .u64 w a0 len0 cap0 z0) (w1 : IsRow .i64 w a1 len1 cap1 z1)
    (w2 : (Lit.int .u64 a2).wf = true) (w3 : (Lit.int .i64 a3).wf = true) :
    Calls Try.prog 3 #[.slice a0 len0 cap0, .slice a1 len1 cap1, .int .u64 a2, .int .i64 a3] w fun e w' => e = .returned (.bool true) ∧ Below w.heap.size w w' := by
  by_cases h : len0 ≤ 4096 ∧ len1 ≤ 4096 ∧ 0 ≤ a3 ∧ a3 ≤ 65536
  · exact law_full a0 len0 cap0 z0 a1 len1 cap1 z1 a2 a3 w w0 w1 w2 w3 h.1 h.2.1 h.2.2.1 h.2.2.2
  · refine (law_early a0 len0 cap0 a1 len1 cap1 a2 a3 w (isRow_len w0) (isRow_len w1) h).mono fun e w' ⟨he, hw⟩ => ?_
    subst hw
    exact ⟨he, Below.refl _ _⟩

end Res
end Go.Proofs.Qxb6615024a
