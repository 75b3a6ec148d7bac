/-
  THE WALKS of zzRuneCount, RuneCountInString, characterAt; zzWidth's ways under one word.
-/
import Derived.Test.Qxb6615024aWidth
import Derived.LoopTactic
namespace Go.Proofs.Qxb6615024a
open Go.RowKit
set_option linter.unusedVariables false
namespace Chr
open Plain

theorem hide {p : Prop} (h : p) : Hid p := h
theorem ret_nat {a b : Nat} (h : a = b) : Ending.returned (.int .i64 (a : Int)) = .returned (.int .i64 (b : Int)) := by rw [h]

theorem byte_at (s : ByteArray) (i k : Nat) (h : i + k < s.size) : (s[i + k]'h).toNat = bt (s.data.toList.drop i) k := by
  rw [← get_drop, ← get_at s (i + k) h]
  rfl

theorem byte_at0 (s : ByteArray) (i : Nat) (h : i < s.size) : (s[i]'h).toNat = bt (s.data.toList.drop i) 0 := byte_at s i 0 h

/-- zzWidth: the width that the decoder reads -/
theorem width_any (s : ByteArray) (i : Nat) (w : World) (hs : s.size ≤ 1048576) (hi : i < s.size) :
    Calls Try.prog 18 #[.string s, .int .i64 i] w fun e w' => e = .returned (.int .i64 (dw (s.data.toList.drop i) : Nat)) ∧ w' = w := by
  have hl : (s.data.toList.drop i).length = s.size - i := by rw [List.length_drop, Array.length_toList]; rfl
  have hd : dw (s.data.toList.drop i) = zwn (s.size - i) (bt (s.data.toList.drop i) 0) (bt (s.data.toList.drop i) 1) (bt (s.data.toList.drop i) 2) (bt (s.data.toList.drop i) 3) := by
    unfold dw
    rw [hl, zwn_eq _ _ _ _ _ (bt_lt _ _) (bt_lt _ _) (bt_lt _ _) (bt_lt _ _)]
  have e0 := byte_at0 s i hi
  have e1 := byte_at s i 1
  have e2 := byte_at s i 2
  have e3 := byte_at s i 3
  have q0 := bt_lt (s.data.toList.drop i) 0
  rw [hd]
  generalize bt (s.data.toList.drop i) 0 = b0 at *
  generalize bt (s.data.toList.drop i) 1 = b1 at *
  generalize bt (s.data.toList.drop i) 2 = b2 at *
  generalize bt (s.data.toList.drop i) 3 = b3 at *
  clear hd hl
  have close : ∀ (z r : Nat) (rI : Int), z = r → (r : Int) = rI → (Calls Try.prog 18 #[.string s, .int .i64 i] w fun e w' => e = .returned (.int .i64 rI) ∧ w' = w) → Calls Try.prog 18 #[.string s, .int .i64 i] w fun e w' => e = .returned (.int .i64 (z : Nat)) ∧ w' = w := by
    intro z r rI h1 h2 h3
    subst h1 h2
    exact h3
  have two : ∀ lo hi', C2 b0 lo hi' → Calls Try.prog 18 #[.string s, .int .i64 i] w fun e w' => e = .returned (.int .i64 (zgo (s.size - i) b1 b2 b3 2 lo hi' : Nat)) ∧ w' = w := by
    intro lo hi' hc
    by_cases n : s.size < i + 2
    · exact close _ 1 1 (by unfold zgo; rw [if_pos (by omega)]) rfl (w2_short s i w hs hi b0 lo hi' e0 hc n)
    · have n' : i + 1 < s.size := by omega
      by_cases l : b1 < lo
      · exact close _ 1 1 (by unfold zgo; rw [if_neg (by omega), if_pos (Or.inl l)]) rfl (w2_lo s i w hs hi b0 lo hi' e0 hc n' b1 (e1 n') l)
      · by_cases h : hi' < b1
        · exact close _ 1 1 (by unfold zgo; rw [if_neg (by omega), if_pos (Or.inr h)]) rfl (w2_hi s i w hs hi b0 lo hi' e0 hc n' b1 (e1 n') h)
        · exact close _ 2 2 (by unfold zgo; rw [if_neg (by omega), if_neg (by omega), if_neg (by omega), if_neg (by omega)]) rfl (w2_all s i w hs hi b0 lo hi' e0 hc n' b1 (e1 n') (by omega) (by omega))
  have three : ∀ lo hi', C3 b0 lo hi' → Calls Try.prog 18 #[.string s, .int .i64 i] w fun e w' => e = .returned (.int .i64 (zgo (s.size - i) b1 b2 b3 3 lo hi' : Nat)) ∧ w' = w := by
    intro lo hi' hc
    by_cases n : s.size < i + 3
    · exact close _ 1 1 (by unfold zgo; rw [if_pos (by omega)]) rfl (w3_short s i w hs hi b0 lo hi' e0 hc n)
    · have n' : i + 2 < s.size := by omega
      have e1 := e1 (by omega)
      have e2 := e2 (by omega)
      by_cases l : b1 < lo
      · exact close _ 1 1 (by unfold zgo; rw [if_neg (by omega), if_pos (Or.inl l)]) rfl (w3_lo s i w hs hi b0 lo hi' e0 hc n' b1 e1 l)
      · by_cases h : hi' < b1
        · exact close _ 1 1 (by unfold zgo; rw [if_neg (by omega), if_pos (Or.inr h)]) rfl (w3_hi s i w hs hi b0 lo hi' e0 hc n' b1 e1 h)
        · by_cases l2 : b2 < 128
          · exact close _ 1 1 (by unfold zgo; rw [if_neg (by omega), if_neg (by omega), if_pos (by omega)]) rfl (w3_lo2 s i w hs hi b0 lo hi' e0 hc n' b1 e1 (by omega) (by omega) b2 e2 l2)
          · by_cases h2 : 191 < b2
            · exact close _ 1 1 (by unfold zgo; rw [if_neg (by omega), if_neg (by omega), if_pos (by omega)]) rfl (w3_hi2 s i w hs hi b0 lo hi' e0 hc n' b1 e1 (by omega) (by omega) b2 e2 h2)
            · exact close _ 3 3 (by unfold zgo; rw [if_neg (by omega), if_neg (by omega), if_neg (by omega), if_neg (by omega)]) rfl (w3_all s i w hs hi b0 lo hi' e0 hc n' b1 e1 (by omega) (by omega) b2 e2 (by omega) (by omega))
  have four : ∀ lo hi', C4 b0 lo hi' → Calls Try.prog 18 #[.string s, .int .i64 i] w fun e w' => e = .returned (.int .i64 (zgo (s.size - i) b1 b2 b3 4 lo hi' : Nat)) ∧ w' = w := by
    intro lo hi' hc
    by_cases n : s.size < i + 4
    · exact close _ 1 1 (by unfold zgo; rw [if_pos (by omega)]) rfl (w4_short s i w hs hi b0 lo hi' e0 hc n)
    · have n' : i + 3 < s.size := by omega
      have e1 := e1 (by omega)
      have e2 := e2 (by omega)
      have e3 := e3 (by omega)
      by_cases l : b1 < lo
      · exact close _ 1 1 (by unfold zgo; rw [if_neg (by omega), if_pos (Or.inl l)]) rfl (w4_lo s i w hs hi b0 lo hi' e0 hc n' b1 e1 l)
      · by_cases h : hi' < b1
        · exact close _ 1 1 (by unfold zgo; rw [if_neg (by omega), if_pos (Or.inr h)]) rfl (w4_hi s i w hs hi b0 lo hi' e0 hc n' b1 e1 h)
        · by_cases l2 : b2 < 128
          · exact close _ 1 1 (by unfold zgo; rw [if_neg (by omega), if_neg (by omega), if_pos (by omega)]) rfl (w4_lo2 s i w hs hi b0 lo hi' e0 hc n' b1 e1 (by omega) (by omega) b2 e2 l2)
          · by_cases h2 : 191 < b2
            · exact close _ 1 1 (by unfold zgo; rw [if_neg (by omega), if_neg (by omega), if_pos (by omega)]) rfl (w4_hi2 s i w hs hi b0 lo hi' e0 hc n' b1 e1 (by omega) (by omega) b2 e2 h2)
            · by_cases l3 : b3 < 128
              · exact close _ 1 1 (by unfold zgo; rw [if_neg (by omega), if_neg (by omega), if_neg (by omega), if_pos (by omega)]) rfl (w4_lo3 s i w hs hi b0 lo hi' e0 hc n' b1 e1 (by omega) (by omega) b2 e2 (by omega) (by omega) b3 e3 l3)
              · by_cases h3 : 191 < b3
                · exact close _ 1 1 (by unfold zgo; rw [if_neg (by omega), if_neg (by omega), if_neg (by omega), if_pos (by omega)]) rfl (w4_hi3 s i w hs hi b0 lo hi' e0 hc n' b1 e1 (by omega) (by omega) b2 e2 (by omega) (by omega) b3 e3 h3)
                · exact close _ 4 4 (by unfold zgo; rw [if_neg (by omega), if_neg (by omega), if_neg (by omega), if_neg (by omega)]) rfl (w4_all s i w hs hi b0 lo hi' e0 hc n' b1 e1 (by omega) (by omega) b2 e2 (by omega) (by omega) b3 e3 (by omega) (by omega))
  unfold zwn
  by_cases c0 : b0 < 128
  · rw [if_pos c0]; exact close _ 1 1 rfl rfl (w_ascii s i w hs hi b0 e0 c0)
  · rw [if_neg c0]
    by_cases c1 : 194 ≤ b0 ∧ b0 ≤ 223
    · rw [if_pos c1]; exact two _ _ ⟨c1.1, c1.2, rfl, rfl⟩
    · rw [if_neg c1]
      by_cases c2 : b0 = 224
      · rw [if_pos c2]; exact three _ _ (Or.inl ⟨c2, rfl, rfl⟩)
      · rw [if_neg c2]
        by_cases c3 : 225 ≤ b0 ∧ b0 ≤ 236
        · rw [if_pos c3]; exact three _ _ (Or.inr (Or.inl ⟨c3.1, c3.2, rfl, rfl⟩))
        · rw [if_neg c3]
          by_cases c4 : b0 = 237
          · rw [if_pos c4]; exact three _ _ (Or.inr (Or.inr (Or.inl ⟨c4, rfl, rfl⟩)))
          · rw [if_neg c4]
            by_cases c5 : 238 ≤ b0 ∧ b0 ≤ 239
            · rw [if_pos c5]; exact three _ _ (Or.inr (Or.inr (Or.inr ⟨c5.1, c5.2, rfl, rfl⟩)))
            · rw [if_neg c5]
              by_cases c6 : b0 = 240
              · rw [if_pos c6]; exact four _ _ (Or.inl ⟨c6, rfl, rfl⟩)
              · rw [if_neg c6]
                by_cases c7 : 241 ≤ b0 ∧ b0 ≤ 243
                · rw [if_pos c7]; exact four _ _ (Or.inr (Or.inl ⟨c7.1, c7.2, rfl, rfl⟩))
                · rw [if_neg c7]
                  by_cases c8 : b0 = 244
                  · rw [if_pos c8]; exact four _ _ (Or.inr (Or.inr ⟨c8, rfl, rfl⟩))
                  · rw [if_neg c8]; exact close _ 1 1 rfl rfl (w_bad s i w hs hi b0 e0 (by omega) (by omega))

set_option maxHeartbeats 800000 in
set_option maxRecDepth 100000 in
/-- zzRuneCount: how many characters -/
theorem zcount_any (s : ByteArray) (w : World) (hs : s.size ≤ 1048576) :
    Calls Try.prog 13 #[.string s] w fun e w' => e = .returned (.int .i64 (rc s.data.toList : Nat)) ∧ w' = w := by
  have hsz : s.data.toList.length = s.size := Array.length_toList
  go_enter Try.func13, Try.ntmps13
  go_wp2
  go_loop [3, 4] (fun n i => ∃ k acc : Nat, k ≤ s.size ∧ acc ≤ k ∧ n = .int .i64 acc ∧ i = .int .i64 k ∧ Hid (acc + rc (s.data.toList.drop k) = rc s.data.toList)) (fun _ i => s.size - (intOf i).toNat)
  case atStart => exact ⟨0, 0, Nat.zero_le _, Nat.le_refl _, rfl, rfl, hide (by simp)⟩
  case round =>
    obtain ⟨k, acc, hk, ha, rfl, rfl, HC⟩ := hrel
    by_cases hlt : k < s.size
    · have hne : s.data.toList.drop k ≠ [] := by
        intro e
        have := congrArg List.length e
        rw [List.length_drop, hsz] at this
        simp at this
        omega
      have h1 := dw_pos (s.data.toList.drop k)
      have h2 := dw_le (s.data.toList.drop k) hne
      have HS : Hid (rc (s.data.toList.drop k) = 1 + rc (s.data.toList.drop (k + dw (s.data.toList.drop k)))) := hide (by rw [rc_step _ hne, List.drop_drop])
      rw [List.length_drop, hsz] at h2
      clear hne hsz
      go_wp2_with fail
      refine (width_any s k _ hs hlt).mono ?_
      rintro e w' ⟨rfl, rfl⟩
      generalize dw (s.data.toList.drop k) = d at *
      go_wp2
      go_round
      case rel => exact ⟨k + d, acc + 1, by omega, by omega, by go_num, by go_num, hide (by have := HC.out; have := HS.out; omega)⟩
      case measure => simp [intOf]; omega
    · have he : s.data.toList.drop k = [] := List.drop_of_length_le (by omega)
      have HE : Hid (acc = rc s.data.toList) := hide (by have := HC.out; rw [he, rc_nil] at this; omega)
      clear he hsz
      go_wp2
      go_ret
      exact ⟨ret_nat HE.out, rfl⟩


theorem grown_trans {a b c : World} (h : Grown a b) (k : Grown b c) : Grown a c := by
  obtain ⟨⟨h1, h2, h3⟩, hf, hs⟩ := h
  obtain ⟨k1, kf, ks⟩ := k
  exact ⟨World.keptBut_trans ⟨h1, h2, h3⟩ k1, fun x => (kf x).trans (hf x), Nat.le_trans hs ks⟩

theorem grown_iter (w : World) (s : ByteArray) (pos : Nat) : Grown w (w.iter s pos) := by
  refine ⟨World.keptBut_alloc _ _ _, fun a => ?_, by show w.heap.size ≤ (w.heap.push _).size; simp⟩
  by_cases h : a.block = w.heap.size
  · have e1 : (w.iter s pos).heap[a.block]? = some (.stringIter s pos) := by rw [h]; exact World.iter_heap w s pos
    have e2 : w.heap[a.block]? = none := by rw [h]; simp
    simp [World.frozen?, e1, e2]
  · exact World.frozen?_alloc_old _ _ _ h

set_option maxHeartbeats 800000 in
set_option maxRecDepth 100000 in
/-- unicode/utf8.RuneCountInString: the library's own text, walked (after the shelf's walk) -/
theorem lcount_any (s : ByteArray) (w : World) (hs : s.size ≤ 1048576) :
    Calls Try.prog 19 #[.string s] w fun e w' => e = .returned (.int .i64 (rc s.data.toList : Nat)) ∧ Grown w w' := by
  rw [← runeCount_eq]
  go_enter Try.func19, Try.ntmps19
  go_wp2
  go_loopw [2] (fun n w' => ∃ (pos b acc : Nat), w' = w.iter s pos ∧ n = .int .i64 acc ∧ acc + Lib.runeCountFrom s b pos = Lib.runeCount s ∧ s.size ≤ pos + b ∧ acc ≤ pos) (fun _ w' => s.size - w'.iterPos w.heap.size)
  case atStart => exact ⟨0, s.size, 0, rfl, rfl, by simp [Lib.runeCount], by omega, Nat.le_refl _⟩
  case round =>
    obtain ⟨pos, b, acc, rfl, rfl, hc, hb, ha⟩ := hrel
    by_cases hp : pos < s.size
    · have hnx : ∀ ty, (Instr.next (.pointer (some ⟨w.heap.size, 0, none⟩)) true ty).run Try.prog (w.iter s pos) = _ := fun ty => run_next_any w s pos ty hp
      have hwd := Lib.decode_width_pos s pos hp
      go_wp2
      go_roundw
      case rel =>
        cases b with
        | zero => omega
        | succ b =>
          refine ⟨pos + (Utf8.decode s pos).2, b, acc + 1, rfl, by go_num, ?_, by omega, by omega⟩
          rw [← hc]
          simp [Lib.runeCountFrom, hp]
          omega
      case measure =>
        simp
        omega
    · have hnx : ∀ ty, (Instr.next (.pointer (some ⟨w.heap.size, 0, none⟩)) true ty).run Try.prog (w.iter s pos) = _ := fun ty => run_next_end w s pos ty hp
      go_wp2
      go_ret
      rw [Lib.runeCountFrom_end s b pos hp, Nat.add_zero] at hc
      exact ⟨ret_nat hc, grown_iter w s pos⟩


theorem take_data (s : ByteArray) (j : Nat) : (s.extract 0 j).data.toList = s.data.toList.take j := by
  simp [ByteArray.data_extract]

theorem drop_data (s : ByteArray) (j : Nat) : (s.extract j s.size).data.toList = s.data.toList.drop j := by
  have e : s.size = s.data.toList.length := Array.length_toList.symm
  rw [ByteArray.data_extract, Array.toList_extract, List.extract_eq_take_drop, e]
  exact List.take_of_length_le (by rw [List.length_drop]; omega)

set_option maxHeartbeats 800000 in
set_option maxRecDepth 100000 in
theorem cat_any (s : ByteArray) (p : Nat) (w : World) (hs : s.size ≤ 1048576) (hp : p ≤ s.size) :
    Calls Try.prog 17 #[.string s, .int .i64 p] w fun e w' => e = .returned (.int .i64 ((rc (s.data.toList.take p) : Nat) + 1)) ∧ Grown w w' := by
  have hz : (s.extract 0 p).size = p := by rw [ByteArray.size_extract]; omega
  have hr := rc_le (s.data.toList.take p)
  rw [List.length_take] at hr
  generalize er : rc (s.data.toList.take p) = r at *
  have ER := hide er
  clear er
  go_enter Try.func17, Try.ntmps17
  go_wp2_with fail
  refine (lcount_any (s.extract 0 p) _ (by omega)).mono ?_
  rintro e w1 ⟨rfl, hg⟩
  rw [take_data, ER.out]
  go_wp2
  go_ret
  exact ⟨rfl, hg⟩

theorem zcat_nat (s : ByteArray) (p : Nat) (w : World) (hs : s.size ≤ 1048576) (hp : p ≤ s.size) :
    Calls Try.prog 12 #[.string s, .int .i64 p] w fun e w' => e = .returned (.int .i64 ((rc (s.data.toList.take p) : Nat) + 1)) ∧ Grown w w' := by
  go_enter Try.func12, Try.ntmps12
  go_wp2_with fail
  refine (cat_any s p _ hs hp).mono ?_
  rintro e w1 ⟨rfl, hg⟩
  go_wp2
  go_ret
  exact ⟨rfl, hg⟩

theorem zcat_any (s : ByteArray) (p : Int) (w : World) (hs : s.size ≤ 1048576) (h0 : 0 ≤ p) (hp : p ≤ s.size) :
    Calls Try.prog 12 #[.string s, .int .i64 p] w fun e w' => e = .returned (.int .i64 ((rc (s.data.toList.take p.toNat) : Nat) + 1)) ∧ Grown w w' := by
  obtain ⟨n, rfl⟩ := Int.eq_ofNat_of_zero_le h0
  rw [Int.toNat_natCast]
  exact zcat_nat s n w hs (by omega)

end Chr
end Go.Proofs.Qxb6615024a
