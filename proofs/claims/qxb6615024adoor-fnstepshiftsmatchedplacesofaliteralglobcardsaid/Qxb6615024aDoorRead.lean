/-
  THE WALK of readInto, at a set that is a list.
-/
import Derived.Test.Qxb6615024aDoorSearch
namespace Go.Proofs.Qxb6615024aDoor
open Go.RowKit
set_option linter.unusedVariables false
namespace Gl

/-- dst behind 'readInto' -/
def rd (zn : List Int) (zs : List Int) (ps : List Nat) : List Int := ps.foldl (fun acc p => if bo zn p then sb acc p else acc) zs

theorem rd_snoc (zn zs : List Int) (ps : List Nat) (p : Nat) : rd zn zs (ps ++ [p]) = if bo zn p then sb (rd zn zs ps) p else rd zn zs ps := by simp [rd]
theorem rd_len (zn : List Int) : ∀ (ps : List Nat) (zs : List Int), (rd zn zs ps).length = zs.length
  | [], zs => rfl
  | p :: ps, zs => by
    show (rd zn (if bo zn p then sb zs p else zs) ps).length = _
    rw [rd_len zn ps]
    split
    · exact len_sb _ _
    · rfl
theorem rd_wf (zn : List Int) : ∀ (ps : List Nat) (zs : List Int), WF zs → WF (rd zn zs ps)
  | [], zs, h => h
  | p :: ps, zs, h => by
    show WF (rd zn (if bo zn p then sb zs p else zs) ps)
    apply rd_wf zn ps
    split
    · exact wf_sb h _
    · exact h
theorem bo_rd (zn : List Int) (q : Nat) : ∀ (ps : List Nat) (zs : List Int), (∀ p ∈ ps, p / 64 < zs.length) → bo (rd zn zs ps) q = (bo zs q || (decide (q ∈ ps) && bo zn q))
  | [], zs, _ => by simp [rd]
  | p :: ps, zs, h => by
    show bo (rd zn (if bo zn p then sb zs p else zs) ps) q = _
    rw [bo_rd zn q ps _ (by
      intro p' hp'
      have := h p' (by simp [hp'])
      split
      · rw [len_sb]; exact this
      · exact this)]
    by_cases e : q = p
    · subst e
      cases hb : bo zn q
      · simp
      · simp [bo_sb _ _ _ (h q (by simp))]
    · have e' : ¬ p = q := fun k => e k.symm
      split
      · simp [bo_sb _ _ _ (h p (by simp)), e]
      · simp [e]

set_option maxHeartbeats 1600000 in
set_option maxRecDepth 100000 in
theorem read_any (ib o db nb n len cap : Nat) (a : Option Addr) (F : Int) (l : Int) (zs zn : List Int) (ps : List Nat) (w : World) (h0 : w.cell? ⟨ib, o, none⟩ = some (.slice a len cap)) (h1 : w.cell? ⟨ib, o + 1, none⟩ = some (.slice none 0 0))
    (hl : ps.length = len) (hl1 : len ≤ 4096) (hat : ∀ k, k < ps.length → ∃ ab, a = some ⟨ab, 0, none⟩ ∧ ab ≠ db ∧ ab < w.heap.size ∧ Cl w .i32 ab 0 (ps.map Int.ofNat)) (hr : Row w .u64 30 db n zs) (hrn : Row w .u64 30 nb n zn) (hne : nb ≠ db)
    (hz : zs.length = n) (hzn : zn.length = n) (hw : WF zs) (hwn : WF zn) (hn : n ≤ 4096) (hps : ∀ p ∈ ps, p < 64 * n) :
    Calls Tryd.prog 23 #[.pointer (some ⟨ib, o, none⟩), .slice (some ⟨db, 0, none⟩) n n, .slice (some ⟨nb, 0, none⟩) n n, .int .i64 F, .int .i64 l] w fun e w' =>
      e = .returned (.tuple #[]) ∧ Row w' .u64 30 db n (rd zn zs ps) ∧ Kept w w' [db] := by
  have hnil : ∀ w, (binOp .eql 29 (.slice none 0 0) (.slice none 0 0)).run Tryd.prog w = .ok (.bool true) w := fun w => Lib.run_eql_slice_nil (P := Tryd.prog) w 29 30 none 0 0 0 0 Tryd.underlying29
  have HA : Hid (∀ k, k < ps.length → ∃ ab, a = some ⟨ab, 0, none⟩ ∧ ab ≠ db ∧ ab < w.heap.size ∧ Cl w .i32 ab 0 (ps.map Int.ofNat)) := hat
  have HP : Hid (∀ p ∈ ps, p < 64 * n) := hps
  have HL : Hid (ps.length = len) := hl
  clear hat hps hl
  go_enter Tryd.func23, Tryd.ntmps23
  go_wp2
  go_loopw [23] (fun i wr => ∃ k : Nat, k ≤ len ∧ i = .int .i64 k ∧ Row wr .u64 30 db n (rd zn zs (ps.take k)) ∧ Kept w wr [db]) (fun i _ => len - (intOf i).toNat)
  case atStart => exact ⟨0, Nat.zero_le _, rfl, by simpa [rd] using hr, Kept.refl _ _⟩
  case round =>
    obtain ⟨k, hk, rfl, hrk, hkk⟩ := hrel
    clear h0 h1 hr
    by_cases hlt : k < len
    · obtain ⟨ab, ea, hab, habl, hcl⟩ := HA.out k (by rw [HL.out]; exact hlt)
      have hidx : (Instr.indexAt 22 (.slice a len cap) (.int .i64 k)).run Tryd.prog wr = .ok (.pointer (some ⟨ab, k, none⟩)) wr := by
        rw [ea]
        go_simp
      have hkl : k < ps.length := by rw [HL.out]; exact hlt
      obtain ⟨p, hp⟩ : ∃ p, ps[k] = p := ⟨_, rfl⟩
      have hpn : p < 64 * n := HP.out p (by rw [← hp]; exact List.getElem_mem _)
      have hc : wr.cell? ⟨ab, k, none⟩ = some (.int .i32 p) := by
        have := hcl k (by simpa using hkl)
        rw [Nat.zero_add] at this
        rw [hkk.cell (p := ⟨ab, k, none⟩) habl (by simpa using hab), this]
        simp [List.getD_eq_getElem?_getD, hkl, hp]
      have HT : Hid (rd zn zs (ps.take (k + 1)) = if bo zn p then sb (rd zn zs (ps.take k)) p else rd zn zs (ps.take k)) := by
        show rd zn zs (ps.take (k + 1)) = _
        rw [List.take_succ_eq_append_getElem hkl, rd_snoc, hp]
      have hrnk := hrn.kept hkk (by simpa using hne)
      have hwk := rd_wf zn (ps.take k) zs hw
      have hlk : (rd zn zs (ps.take k)).length = n := by rw [rd_len]; exact hz
      generalize rd zn zs (ps.take k) = zk at *
      clear hcl hp hkl ea
      cases hb : bo zn p
      · have HB : Hid (bo zn p = false) := hb
        clear hb
        go_wp2_with fail
        refine (hasBit_any nb 0 n n p zn _ hrnk.cl hzn hwn hpn hn).mono ?_
        rintro e w' ⟨rfl, rfl⟩
        rw [HB.out]
        go_wp2
        go_roundw
        case rel => exact ⟨k + 1, by omega, by go_num, by rw [HT.out, HB.out]; exact hrk.drew, hkk.drew⟩
        case measure => simp [intOf]; omega
      · have HB : Hid (bo zn p = true) := hb
        clear hb
        go_wp2_with fail
        refine (hasBit_any nb 0 n n p zn _ hrnk.cl hzn hwn hpn hn).mono ?_
        rintro e w' ⟨rfl, rfl⟩
        rw [HB.out]
        go_wp2_with fail
        refine (setBit_any db n n p zk _ hrk.drew hlk hwk hpn hn).mono ?_
        rintro e w' ⟨rfl, r1, k1⟩
        go_wp2
        go_roundw
        case rel => exact ⟨k + 1, by omega, by go_num, by rw [HT.out, HB.out]; exact r1, hkk.drew.trans k1⟩
        case measure => simp [intOf]; omega
    · have e : k = len := by omega
      have HE : Hid (rd zn zs (ps.take k) = rd zn zs ps) := by
        show rd zn zs (ps.take k) = _
        rw [List.take_of_length_le (by rw [HL.out]; omega)]
      clear e
      go_wp2
      refine bodyPost_ret (results_none Tryd.results23 _ _ _) rfl ?_
      exact ⟨rfl, by rw [← HE.out]; exact hrk, hkk⟩

end Gl
end Go.Proofs.Qxb6615024aDoor
