/-
  THE WALK of zzLiteralChars: the distinct characters, ascending.
-/
import Derived.Test.Qxb6615024aDoorClone
import Derived.Test.Qxb6615024aDoorIns
import Derived.Deep.DeepCutAuto
import Derived.Deep.CutBlock
import Derived.Maps.AppendAt
namespace Go.Proofs.Qxb6615024aDoor
open Go.RowKit
set_option linter.unusedVariables false
namespace Gl

/-- an index into the pattern -/
theorem ps_idx {w : World} {a : Option Addr} {n : Nat} {zs : List Int} (h : PS w a n zs) (k : Nat) (hk : k < n) :
    ∃ b, a = some ⟨b, 0, none⟩ ∧ b < w.heap.size ∧ w.cell? ⟨b, k, none⟩ = some (.int .i32 (zs.getD k 0)) := by
  obtain ⟨hl, h0 | ⟨b, rfl, hr⟩⟩ := h
  · omega
  · exact ⟨b, rfl, hr.lt, hr.cell k (by omega)⟩
theorem PS.kept {w w' : World} {a : Option Addr} {n : Nat} {zs : List Int} (h : PS w a n zs) (k : Kept w w' []) : PS w' a n zs := by
  obtain ⟨hl, h0 | ⟨b, rfl, hr⟩⟩ := h
  · exact ⟨hl, Or.inl h0⟩
  · exact ⟨hl, Or.inr ⟨b, rfl, hr.kept k (by simp)⟩⟩

set_option maxHeartbeats 4000000 in
set_option maxRecDepth 100000 in
theorem chars_any (a : Option Addr) (n : Nat) (zs : List Int) (w : World) (hn : n ≤ 4096) (hp : PS w a n zs) :
    Calls Tryd.prog 7 #[.slice a n n] w fun e w' => ∃ cs : List Int, e = .returned (.slice (some ⟨w.heap.size, 0, none⟩) cs.length n) ∧ Row w' .i32 21 w.heap.size n cs ∧ Kept w w' [] ∧ Asc cs ∧ (∀ x, Has cs x ↔ Has zs x) ∧ cs.length ≤ n := by
  obtain ⟨i0, hi, hz0, hz1, hz2⟩ := info_parts Tryd.info21
  have hmk : ∀ w, (Instr.makeSlice 22 (.int .i64 0) (.int .i64 (n : Int))).run Tryd.prog w = .ok (.slice (some ⟨w.heap.size, 0, none⟩) 0 n) (w.alloc (.cells (madeCells #[Value.int .i32 0] n) 21)) := by
    intro w
    have := run_make (P := Tryd.prog) w 22 21 i0 (.int .i32 0) Tryd.underlying22 hi hz0 .i64 .i64 0 (n : Int) (by omega) (by omega) (by rw [hz2]; omega) (by omega)
    rw [hz1] at this
    simpa [Value.cells] using this
  have hzl := hp.1
  go_enter Tryd.func7, Tryd.ntmps7
  go_wp2
  go_loopw [3, 4] (fun s3 s4 wr => ∃ (k : Nat) (cs : List Int), s4 = .int .i64 k ∧ s3 = .slice (some ⟨w.heap.size, 0, none⟩) cs.length n ∧ k ≤ n ∧ cs.length ≤ k ∧ Row wr .i32 21 w.heap.size n cs ∧ Kept w wr [] ∧ Hid (Asc cs ∧ ∀ x, Has cs x ↔ Has (zs.take k) x)) (fun _ s4 _ => n - (intOf s4).toNat)
  case atStart =>
    refine ⟨0, [], rfl, rfl, Nat.zero_le _, Nat.le_refl _, ?_, (Kept.refl _ _).alloc _, fun i j _ h => absurd h (Nat.not_lt_zero _), fun x => ⟨?_, ?_⟩⟩
    · obtain ⟨r, h1, h2⟩ := Row.made w .i32 21 n
      exact ⟨(List.replicate n 0).map (Value.int .i32) ++ r, by simpa using h1, by simp at h2 ⊢; omega⟩
    · rintro ⟨i, h, _⟩; exact absurd h (Nat.not_lt_zero _)
    · rintro ⟨i, h, _⟩; simp at h
  case round =>
    obtain ⟨k, cs, rfl, rfl, hk, hck, hr, hkk, HA⟩ := hrel
    have hpk := hp.kept hkk
    clear hmk hp
    by_cases hlt : k < n
    · obtain ⟨pb, ea, hpb, hc⟩ := ps_idx hpk k hlt
      have hidx : (Instr.indexAt 22 (.slice a n n) (.int .i64 k)).run Tryd.prog wr = .ok (.pointer (some ⟨pb, k, none⟩)) wr := by
        rw [ea]
        go_simp
      obtain ⟨c, hcc⟩ : ∃ c, c = zs.getD k 0 := ⟨_, rfl⟩
      rw [← hcc] at hc
      have HC := hide' hcc
      clear hcc ea
      have hlen : cs.length ≤ 4096 := by omega
      go_upto_block 2 with fail
      go_cut [6] (fun s6 wx => wr = wx ∧ ∃ t : Nat, s6 = .int .i64 t ∧ t ≤ cs.length ∧ Hid ((∀ i, i < t → cs.getD i 0 < c) ∧ (t < cs.length → c ≤ cs.getD t 0)))
      case first =>
        go_wp2_with fail
        go_loop [6] (fun s6 => ∃ t : Nat, s6 = .int .i64 t ∧ t ≤ cs.length ∧ Hid (∀ i, i < t → cs.getD i 0 < c)) (fun s6 => cs.length - (intOf s6).toNat)
        case atStart => exact ⟨0, rfl, Nat.zero_le _, fun i hi => absurd hi (Nat.not_lt_zero _)⟩
        case round =>
          obtain ⟨t, rfl, ht, HT⟩ := hrel
          by_cases hlt2 : t < cs.length
          · have h1' : (t : Int) < (cs.length : Int) := by omega
            obtain ⟨y, hy⟩ : ∃ y, y = cs.getD t 0 := ⟨_, rfl⟩
            have cy := hr.cell t hlt2
            rw [← hy] at cy
            have HY := hide' hy
            clear hy
            by_cases hyc : y < c
            · go_wp2
              go_round
              case rel =>
                refine ⟨t + 1, by go_num, by omega, fun i hi => ?_⟩
                by_cases e : i = t
                · subst e; rw [← HY.out]; exact hyc
                · exact HT.out i (by omega)
              case measure => simp [intOf]; omega
            · go_wp2
              go_meet
              exact ⟨rfl, t, rfl, ht, HT.out, fun _ => by rw [← HY.out]; omega⟩
          · go_wp2
            go_meet
            exact ⟨rfl, t, rfl, ht, HT.out, fun h => absurd h hlt2⟩
      case rest =>
      obtain ⟨rfl, t, rfl, ht, HT⟩ := hcut
      go_upto_region 9 with fail
      go_cut [46] (fun s46 wx => wr = wx ∧ s46 = .bool (decide (t < cs.length ∧ cs.getD t 0 = c)))
      case first =>
        by_cases hlt2 : t < cs.length
        · have h1' : (t : Int) < (cs.length : Int) := by omega
          obtain ⟨y, hy⟩ : ∃ y, y = cs.getD t 0 := ⟨_, rfl⟩
          have cy := hr.cell t hlt2
          rw [← hy] at cy
          have HY := hide' hy
          clear hy
          cases hyc : (y == c)
          · have HD := hide' (show decide (t < cs.length ∧ cs.getD t 0 = c) = false from decide_eq_false (fun h => by rw [← HY.out] at h; simp [h.2] at hyc))
            go_wp2
            go_meet
            exact ⟨rfl, by rw [HD.out]⟩
          · have HD := hide' (show decide (t < cs.length ∧ cs.getD t 0 = c) = true from decide_eq_true ⟨hlt2, by rw [← HY.out]; exact beq_iff_eq.1 hyc⟩)
            go_wp2
            go_meet
            exact ⟨rfl, by rw [HD.out]⟩
        · have HD := hide' (show decide (t < cs.length ∧ cs.getD t 0 = c) = false from decide_eq_false (fun h => hlt2 h.1))
          go_wp2
          go_meet
          exact ⟨rfl, by rw [HD.out]⟩
      case rest =>
      obtain ⟨rfl, rfl⟩ := hcut
      have HTK := hide' (fun x => has_take (zs := zs) (p := k) (by omega) x)
      by_cases hf : t < cs.length ∧ cs.getD t 0 = c
      · have hd := decide_eq_true hf
        have HS : Hid (∀ x, Has cs x ↔ Has (zs.take (k + 1)) x) := by
          intro x
          rw [HTK.out x, ← HC.out, ← HA.out.2 x]
          constructor
          · exact Or.inr
          · rintro (rfl | h)
            · exact ⟨t, hf.1, hf.2⟩
            · exact h
        clear hf
        rw [hd]
        go_wp2
        go_roundw
        case rel => exact ⟨k + 1, cs, by go_num, rfl, by omega, by omega, hr, hkk, HA.out.1, HS.out⟩
        case measure => simp [intOf]; omega
      · have hd := decide_eq_false hf
        have HT2 : Hid (t < cs.length → c < cs.getD t 0) := by
          intro h
          have := HT.out.2 h
          rcases Int.lt_or_eq_of_le this with h' | h'
          · exact h'
          · exact absurd ⟨h, h'.symm⟩ hf
        clear hf hidx hc
        rw [hd]
        clear hd
        have hown := hr.owns (by unfold maxLen; omega)
        go_wp2_with (at_builtin; refine wpList_append_fits _ rfl _ _ 22 rfl 0 21 i0 1 Tryd.underlying22 hi hz1 w.heap.size cs.length n (cs.map (Value.int .i32)) rfl (hown.alloc _) ⟨wr.heap.size, 0, none⟩ 1 1 [.int .i32 0] rfl rfl (cell_one_new _ _ _) (ints_oneCell .i32 [0]) (by omega) ?_; intro w1 hown1 hgrow1)
        have hr1 : Row w1 .i32 21 w.heap.size n (cs ++ [0]) := Row.of_owns (n := cs.length + 1) (by simpa using hown1) (by simp)
        have hk1 : Kept w w1 [] := (hkk.alloc _).then (Kept.of_grown hgrow1) (by simp)
        clear hown hown1 hgrow1 hr hkk hpk
        go_loopw [7] (fun s7 wx => ∃ (q : Nat) (D : List Int), s7 = .int .i64 q ∧ t ≤ q ∧ q ≤ cs.length ∧ Row wx .i32 21 w.heap.size n D ∧ Kept w wx [] ∧ Hid (Shifted cs D q)) (fun s7 _ => (intOf s7).toNat)
        case atStart => exact ⟨cs.length, cs ++ [0], rfl, ht, Nat.le_refl _, hr1, hk1, sh_start cs⟩
        case round =>
          obtain ⟨q, D, rfl, hq0, hq1, hrq, hkq, HQ⟩ := hrel
          clear hr1 hk1
          have hDl := HQ.out.1
          by_cases hq : t < q
          · obtain ⟨q', rfl⟩ : ∃ q', q = q' + 1 := ⟨q - 1, by omega⟩
            have c1 := hrq.cell q' (by omega)
            have c2 := hrq.cell (q' + 1) (by omega)
            have f2 := hrq.frozen (q' + 1)
            have hst := sh_step HQ.out (by omega) hq1
            rw [Nat.add_sub_cancel] at hst
            have hset := hrq.set (q' + 1) (by omega) (D.getD q' 0)
            have HST := hide' hst
            clear hst
            generalize D.getD q' 0 = y at *
            generalize D.getD (q' + 1) 0 = y' at *
            clear hrq
            have hqn : ((q' : Int) + 1) < (cs.length : Int) + 1 := by omega
            go_wp2
            go_roundw
            case rel => exact ⟨q', D.set (q' + 1) y, by go_num, by omega, by omega, hset, hkq.setCell (Or.inr (Nat.le_refl _)) _, HST.out⟩
            case measure => simp [intOf]
          · have e : q = t := by omega
            subst e
            have c2 := hrq.cell q (by omega)
            have f2 := hrq.frozen q
            have hset := hrq.set q (by omega) c
            have HI := hide' (sh_end (c := c) HQ.out ht)
            have HAS := hide' (ins_asc HI.out HA.out.1 ht HT.out.1 HT2.out)
            have HHS : Hid (∀ x, Has (D.set q c) x ↔ Has (zs.take (k + 1)) x) := by
              intro x
              rw [ins_has HI.out ht x, HTK.out x, ← HC.out, ← HA.out.2 x]
            generalize D.getD q 0 = y at *
            clear hrq
            have hqn : (q : Int) < (cs.length : Int) + 1 := by omega
            have hll : (D.set q c).length = cs.length + 1 := by simpa using hDl
            go_wp2
            go_roundw
            case rel => exact ⟨k + 1, D.set q c, by go_num, by rw [hll], by omega, by omega, hset, hkq.setCell (Or.inr (Nat.le_refl _)) _, HAS.out, HHS.out⟩
            case measure => simp [intOf]; omega
    · have HE : Hid (∀ x, Has cs x ↔ Has zs x) := by
        intro x
        rw [HA.out.2 x, List.take_of_length_le (by omega)]
      go_wp2
      go_ret
      exact ⟨cs, rfl, hr, hkk, HA.out.1, HE.out, by omega⟩

end Gl
end Go.Proofs.Qxb6615024aDoor
