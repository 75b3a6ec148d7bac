/-
  THE LAW 'FnCharacterAtAddsOverACut': her walk out of the contracts.
-/
import Derived.Test.Qxb6615024aChars
namespace Go.Proofs.Qxb6615024a
open Go.RowKit
set_option linter.unusedVariables false
namespace Chr
open Plain

theorem bytes_yes (s : ByteArray) (i j : Int) (w : World) (h : s.size ≤ 1048576) :
    Calls Try.prog 11 #[.string s, .int .i64 i, .int .i64 j] w fun e w' => e = .returned (.bool true) ∧ w' = w := by
  go_enter Try.func11, Try.ntmps11
  go_wp2
  go_ret
  exact ⟨rfl, rfl⟩

theorem bytes_no (s : ByteArray) (i j : Int) (w : World) (hm : s.size ≤ maxLen) (h : 1048576 < s.size) :
    Calls Try.prog 11 #[.string s, .int .i64 i, .int .i64 j] w fun e w' => e = .returned (.bool false) ∧ w' = w := by
  unfold maxLen at hm
  go_enter Try.func11, Try.ntmps11
  go_wp2
  go_ret
  exact ⟨rfl, rfl⟩

theorem ret_true {b : Bool} (h : b = true) : Ending.returned (.bool b) = .returned (.bool true) := by rw [h]

/-- the count over a cut that stands ahead of no continuation byte -/
theorem cut_adds (l : List UInt8) (i j : Nat) (hij : i ≤ j) (hc : i < l.length → bt (l.drop i) 0 / 64 ≠ 2) :
    rc (l.take j) = rc (l.take i) + rc ((l.drop i).take (j - i)) := by
  have e : l.take j = l.take i ++ (l.drop i).take (j - i) := by
    rw [← List.take_add, show i + (j - i) = j from by omega]
  rw [e]
  refine rc_append _ ?_ _ _ (Nat.le_refl _)
  by_cases h0 : (l.drop i).take (j - i) = []
  · exact Or.inl h0
  · refine Or.inr ?_
    have hl : 0 < ((l.drop i).take (j - i)).length := List.length_pos_iff.2 h0
    rw [List.length_take, List.length_drop] at hl
    have hb : bt ((l.drop i).take (j - i)) 0 = bt (l.drop i) 0 := by
      unfold bt; congr 1
      rw [List.getD_eq_getElem?_getD, List.getD_eq_getElem?_getD, List.getElem?_take_of_lt (by omega)]
    rw [hb]
    exact hc (by omega)

set_option maxHeartbeats 800000 in
set_option maxRecDepth 100000 in
theorem law_full (s : ByteArray) (i j : Nat) (w : World) (hs : s.size ≤ 1048576) (hij : i ≤ j) (hj : j ≤ s.size) (hc : s.size ≤ i ∨ ∃ b0 : Nat, ∃ h : i < s.size, s[i].toNat = b0 ∧ (b0 < 128 ∨ 191 < b0)) :
    Calls Try.prog 4 #[.string s, .int .i64 i, .int .i64 j] w fun e w' => e = .returned (.bool true) ∧ Grown w w' := by
  have hlen : s.data.toList.length = s.size := Array.length_toList
  have hsum := cut_adds s.data.toList i j hij (fun h => by
    rcases hc with hc | ⟨b0, hi, e0, hb⟩
    · omega
    · rw [← byte_at0 s i hi, e0]
      have : b0 < 256 := by rw [← e0]; exact s[i].toNat_lt
      omega)
  have r1 := rc_le (s.data.toList.take i)
  have r2 := rc_le ((s.data.toList.drop i).take (j - i))
  rw [List.length_take] at r1 r2
  have HA : Hid ((s.extract 0 j).data.toList = s.data.toList.take j) := hide (take_data s j)
  have HB : Hid ((s.extract i s.size).data.toList = s.data.toList.drop i) := hide (drop_data s i)
  have z1 : (s.extract i s.size).size = s.size - i := by rw [ByteArray.size_extract]; omega
  have z2 : (s.extract 0 j).size = j := by rw [ByteArray.size_extract]; omega
  generalize eA : rc (s.data.toList.take j) = A at *
  generalize eH : rc (s.data.toList.take i) = H at *
  generalize eT : rc ((s.data.toList.drop i).take (j - i)) = T at *
  subst hsum
  have EA := hide eA
  have EH := hide eH
  have ET := hide eT
  clear eA eH eT hlen
  rcases hc with hc | ⟨b0, hi, e0, hb | hb⟩
  all_goals
    go_enter Try.func4, Try.ntmps4
    go_wp2_with fail
    refine (bytes_yes _ _ _ _ hs).mono ?_
    rintro e w' ⟨rfl, rfl⟩
    go_wp2_with fail
    refine (zcat_nat s j _ hs hj).mono ?_
    rintro e W1 ⟨rfl, g1⟩
    rw [EA.out]
    go_wp2_with fail
    refine (zcat_nat s i _ hs (by omega)).mono ?_
    rintro e W2 ⟨rfl, g2⟩
    rw [EH.out]
    go_wp2_with fail
    have q1 : (s.extract i s.size).size ≤ 1048576 := by omega
    have q2 : (0 : Int) ≤ (j : Int) - (i : Int) := by omega
    have q3 : (j : Int) - (i : Int) ≤ ((s.extract i s.size).size : Int) := by omega
    refine (zcat_any (s.extract i s.size) ((j : Int) - (i : Int)) _ q1 q2 q3).mono ?_
    clear q1 q2 q3
    rintro e W3 ⟨rfl, g3⟩
    rw [HB.out, show ((j : Int) - (i : Int)).toNat = j - i from by omega, ET.out]
    go_wp2_with fail
    have q4 : (s.extract 0 j).size ≤ 1048576 := by omega
    refine (zcount_any (s.extract 0 j) _ q4).mono ?_
    clear q4
    rintro e W4 ⟨rfl, rfl⟩
    rw [HA.out, EA.out]
    go_wp2
    go_ret
    exact ⟨ret_true (b := ((H : Int) + 1 + ((T : Int) + 1) - 1 == 1 + ((H : Int) + (T : Int)))) (by rw [beq_iff_eq]; omega), grown_trans (grown_trans g1 g2) g3⟩

set_option maxHeartbeats 800000 in
set_option maxRecDepth 100000 in
theorem law_out (s : ByteArray) (i j : Int) (w : World) (hs : s.size ≤ 1048576) (h : i < 0 ∨ (0 ≤ i ∧ j < i) ∨ (0 ≤ i ∧ i ≤ j ∧ (s.size : Int) < j)) :
    Calls Try.prog 4 #[.string s, .int .i64 i, .int .i64 j] w fun e w' => e = .returned (.bool true) ∧ w' = w := by
  rcases h with h | ⟨h, h'⟩ | ⟨h, h', h''⟩
  all_goals
    go_enter Try.func4, Try.ntmps4
    go_wp2_with fail
    refine (bytes_yes _ _ _ _ hs).mono ?_
    rintro e w' ⟨rfl, rfl⟩
    go_wp2
    go_ret
    exact ⟨rfl, rfl⟩

set_option maxHeartbeats 800000 in
set_option maxRecDepth 100000 in
theorem law_big (s : ByteArray) (i j : Int) (w : World) (hm : s.size ≤ maxLen) (hs : 1048576 < s.size) :
    Calls Try.prog 4 #[.string s, .int .i64 i, .int .i64 j] w fun e w' => e = .returned (.bool true) ∧ w' = w := by
  have HM := hide hm
  unfold maxLen at hm
  go_enter Try.func4, Try.ntmps4
  go_wp2_with fail
  refine (bytes_no _ _ _ _ HM.out hs).mono ?_
  rintro e w' ⟨rfl, rfl⟩
  go_wp2
  go_ret
  exact ⟨rfl, rfl⟩

set_option maxHeartbeats 800000 in
set_option maxRecDepth 100000 in
theorem law_cont (s : ByteArray) (i j : Nat) (w : World) (hs : s.size ≤ 1048576) (hij : i ≤ j) (hj : j ≤ s.size) (b0 : Nat) (hi : i < s.size) (e0 : s[i].toNat = b0) (h1 : 128 ≤ b0) (h2 : b0 ≤ 191) :
    Calls Try.prog 4 #[.string s, .int .i64 i, .int .i64 j] w fun e w' => e = .returned (.bool true) ∧ w' = w := by
  go_enter Try.func4, Try.ntmps4
  go_wp2_with fail
  refine (bytes_yes _ _ _ _ hs).mono ?_
  rintro e w' ⟨rfl, rfl⟩
  go_wp2
  go_ret
  exact ⟨rfl, rfl⟩

theorem law_any (s : ByteArray) (i j : Int) (w : World) (hm : s.size ≤ maxLen) :
    Calls Try.prog 4 #[.string s, .int .i64 i, .int .i64 j] w fun e w' => e = .returned (.bool true) ∧ Grown w w' := by
  have same : (Calls Try.prog 4 #[.string s, .int .i64 i, .int .i64 j] w fun e w' => e = .returned (.bool true) ∧ w' = w) → Calls Try.prog 4 #[.string s, .int .i64 i, .int .i64 j] w fun e w' => e = .returned (.bool true) ∧ Grown w w' := by
    intro h
    refine h.mono fun e w' ⟨he, hw⟩ => ?_
    subst hw
    exact ⟨he, Grown.refl _⟩
  by_cases hs : s.size ≤ 1048576
  · by_cases ho : i < 0 ∨ (0 ≤ i ∧ j < i) ∨ (0 ≤ i ∧ i ≤ j ∧ (s.size : Int) < j)
    · exact same (law_out s i j w hs ho)
    · obtain ⟨i, rfl⟩ := Int.eq_ofNat_of_zero_le (show 0 ≤ i by omega)
      obtain ⟨j, rfl⟩ := Int.eq_ofNat_of_zero_le (show 0 ≤ j by omega)
      by_cases hi : i < s.size
      · by_cases hb : 128 ≤ s[i].toNat ∧ s[i].toNat ≤ 191
        · exact same (law_cont s i j w hs (by omega) (by omega) _ hi rfl hb.1 hb.2)
        · exact law_full s i j w hs (by omega) (by omega) (Or.inr ⟨_, hi, rfl, by omega⟩)
      · exact law_full s i j w hs (by omega) (by omega) (Or.inl (by omega))
  · exact same (law_big s i j w hm (by omega))

end Chr
end Go.Proofs.Qxb6615024a
