/-
  THE LAWS 'FnQuickTreeSeparatesMethods' and 'FnQuickTreeIsTheMethodsOwnTree': their walks out of the contracts.
-/
import Derived.Test.Qxb6615050aQuick
import Derived.LaidEqlPtr
import Derived.Lib.Builder
namespace Go.Proofs.Qxb6615050a
open Go.RowKit Go.Maps
set_option linter.unusedVariables false
namespace Qt

set_option maxHeartbeats 1000000 in
theorem bytes21_yes (a b c : ByteArray) (w : World) (h : a.size + b.size + c.size ≤ 1048576) :
    Calls Try.prog 21 #[.string a, .string b, .string c] w fun e w' => e = .returned (.bool true) ∧ w' = w := by
  go_enter Try.func21, Try.ntmps21
  go_wp2
  go_ret
  exact ⟨rfl, rfl⟩

set_option maxHeartbeats 1000000 in
theorem bytes21_no (a b c : ByteArray) (w : World) (ha : a.size ≤ maxLen) (hb : b.size ≤ maxLen) (hc : c.size ≤ maxLen) (h : 1048576 < a.size + b.size + c.size) :
    Calls Try.prog 21 #[.string a, .string b, .string c] w fun e w' => e = .returned (.bool false) ∧ w' = w := by
  unfold maxLen at ha hb hc
  by_cases h1 : 1048576 < a.size
  · go_enter Try.func21, Try.ntmps21
    go_wp2
    go_ret
    exact ⟨rfl, rfl⟩
  · by_cases h2 : 1048576 < b.size
    · go_enter Try.func21, Try.ntmps21
      go_wp2
      go_ret
      exact ⟨rfl, rfl⟩
    · by_cases h3 : 1048576 < a.size + b.size
      · go_enter Try.func21, Try.ntmps21
        go_wp2
        go_ret
        exact ⟨rfl, rfl⟩
      · by_cases h4 : 1048576 < c.size
        all_goals
          go_enter Try.func21, Try.ntmps21
          go_wp2
          go_ret
          exact ⟨rfl, rfl⟩

set_option maxHeartbeats 1000000 in
theorem bytes26_yes (a b c : ByteArray) (w : World) (h : a.size + b.size + c.size ≤ 1048576) :
    Calls Try.prog 26 #[.string a, .string b, .string c] w fun e w' => e = .returned (.bool true) ∧ w' = w := by
  go_enter Try.func26, Try.ntmps26
  go_wp2
  go_ret
  exact ⟨rfl, rfl⟩

set_option maxHeartbeats 1000000 in
theorem bytes26_no (a b c : ByteArray) (w : World) (ha : a.size ≤ maxLen) (hb : b.size ≤ maxLen) (hc : c.size ≤ maxLen) (h : 1048576 < a.size + b.size + c.size) :
    Calls Try.prog 26 #[.string a, .string b, .string c] w fun e w' => e = .returned (.bool false) ∧ w' = w := by
  unfold maxLen at ha hb hc
  by_cases h1 : 1048576 < a.size
  · go_enter Try.func26, Try.ntmps26
    go_wp2
    go_ret
    exact ⟨rfl, rfl⟩
  · by_cases h2 : 1048576 < b.size
    · go_enter Try.func26, Try.ntmps26
      go_wp2
      go_ret
      exact ⟨rfl, rfl⟩
    · by_cases h3 : 1048576 < a.size + b.size
      · go_enter Try.func26, Try.ntmps26
        go_wp2
        go_ret
        exact ⟨rfl, rfl⟩
      · by_cases h4 : 1048576 < c.size
        all_goals
          go_enter Try.func26, Try.ntmps26
          go_wp2
          go_ret
          exact ⟨rfl, rfl⟩

set_option maxHeartbeats 1000000 in
set_option maxRecDepth 100000 in
theorem own_big (a b c : ByteArray) (w : World) (ha : a.size ≤ maxLen) (hb : b.size ≤ maxLen) (hc : c.size ≤ maxLen) (h : 1048576 < a.size + b.size + c.size) :
    Calls Try.prog 7 #[.string a, .string b, .string c] w fun e w' => e = .returned (.bool true) ∧ w' = w := by
  have HB : Hid (∀ w, Calls Try.prog 21 #[.string a, .string b, .string c] w fun e w' => e = .returned (.bool false) ∧ w' = w) := fun w => bytes21_no a b c w ha hb hc h
  go_enter Try.func7, Try.ntmps7
  go_wp2_with fail
  refine (HB.out _).mono ?_
  rintro e w' ⟨rfl, rfl⟩
  go_wp2
  go_ret
  exact ⟨rfl, rfl⟩

set_option maxHeartbeats 1000000 in
set_option maxRecDepth 100000 in
theorem own_mid (a b c : ByteArray) (w : World) (h : a.size + b.size + c.size ≤ 1048576) (h' : ¬ (a.size ≤ 262144 ∧ b.size ≤ 262144 ∧ c.size ≤ 262144)) :
    Calls Try.prog 7 #[.string a, .string b, .string c] w fun e w' => e = .returned (.bool true) ∧ w' = w := by
  have HB : Hid (∀ w, Calls Try.prog 21 #[.string a, .string b, .string c] w fun e w' => e = .returned (.bool true) ∧ w' = w) := fun w => bytes21_yes a b c w h
  by_cases h1 : 262144 < a.size
  · clear h'
    go_enter Try.func7, Try.ntmps7
    go_wp2_with fail
    refine (HB.out _).mono ?_
    rintro e w' ⟨rfl, rfl⟩
    go_wp2
    go_ret
    exact ⟨rfl, rfl⟩
  · by_cases h2 : 262144 < b.size
    · clear h'
      go_enter Try.func7, Try.ntmps7
      go_wp2_with fail
      refine (HB.out _).mono ?_
      rintro e w' ⟨rfl, rfl⟩
      go_wp2
      go_ret
      exact ⟨rfl, rfl⟩
    · have h3 : 262144 < c.size := by omega
      clear h'
      go_enter Try.func7, Try.ntmps7
      go_wp2_with fail
      refine (HB.out _).mono ?_
      rintro e w' ⟨rfl, rfl⟩
      go_wp2
      go_ret
      exact ⟨rfl, rfl⟩

set_option maxHeartbeats 1000000 in
set_option maxRecDepth 100000 in
theorem sep_big (a b c : ByteArray) (w : World) (ha : a.size ≤ maxLen) (hb : b.size ≤ maxLen) (hc : c.size ≤ maxLen) (h : 1048576 < a.size + b.size + c.size) :
    Calls Try.prog 8 #[.string a, .string b, .string c] w fun e w' => e = .returned (.bool true) ∧ w' = w := by
  have HB : Hid (∀ w, Calls Try.prog 26 #[.string a, .string b, .string c] w fun e w' => e = .returned (.bool false) ∧ w' = w) := fun w => bytes26_no a b c w ha hb hc h
  go_enter Try.func8, Try.ntmps8
  go_wp2_with fail
  refine (HB.out _).mono ?_
  rintro e w' ⟨rfl, rfl⟩
  go_wp2
  go_ret
  exact ⟨rfl, rfl⟩

set_option maxHeartbeats 1000000 in
set_option maxRecDepth 100000 in
theorem sep_mid (a b c : ByteArray) (w : World) (h : a.size + b.size + c.size ≤ 1048576) (h' : ¬ (a.size ≤ 262144 ∧ b.size ≤ 262144 ∧ c.size ≤ 262144)) :
    Calls Try.prog 8 #[.string a, .string b, .string c] w fun e w' => e = .returned (.bool true) ∧ w' = w := by
  have HB : Hid (∀ w, Calls Try.prog 26 #[.string a, .string b, .string c] w fun e w' => e = .returned (.bool true) ∧ w' = w) := fun w => bytes26_yes a b c w h
  by_cases h1 : 262144 < a.size
  · clear h'
    go_enter Try.func8, Try.ntmps8
    go_wp2_with fail
    refine (HB.out _).mono ?_
    rintro e w' ⟨rfl, rfl⟩
    go_wp2
    go_ret
    exact ⟨rfl, rfl⟩
  · by_cases h2 : 262144 < b.size
    · clear h'
      go_enter Try.func8, Try.ntmps8
      go_wp2_with fail
      refine (HB.out _).mono ?_
      rintro e w' ⟨rfl, rfl⟩
      go_wp2
      go_ret
      exact ⟨rfl, rfl⟩
    · have h3 : 262144 < c.size := by omega
      clear h'
      go_enter Try.func8, Try.ntmps8
      go_wp2_with fail
      refine (HB.out _).mono ?_
      rintro e w' ⟨rfl, rfl⟩
      go_wp2
      go_ret
      exact ⟨rfl, rfl⟩


/-- the router's cell at a method's number -/
theorem cell_tp {w' : World} {r B : Nat} (h : ∀ i, i < 9 → w'.cell? ⟨r, 1 + i, none⟩ = some (.pointer (some ⟨B + i, 0, none⟩))) (h9 : w'.cell? ⟨r, 10, none⟩ = some (.pointer none)) (k : Nat) (hk : k ≤ 9) :
    w'.cell? ⟨r, 1 + k, none⟩ = some (.pointer (tp B k)) := by
  unfold tp
  by_cases c : k < 9
  · rw [if_pos c]; exact h k c
  · have : k = 9 := by omega
    subst this
    exact h9

set_option maxHeartbeats 1000000 in
set_option maxRecDepth 100000 in
theorem sep_slash (a b c : ByteArray) (w : World) (ha : a.size ≤ 262144) (hb : b.size ≤ 262144) (hc : c.size ≤ 262144) (h : c.size = 0 ∨ ∃ hz : 0 < c.size, ((c[0].toNat : Int) != 47) = true) :
    Calls Try.prog 8 #[.string a, .string b, .string c] w fun e w' => e = .returned (.bool true) ∧ w' = w := by
  have HB : Hid (∀ w, Calls Try.prog 26 #[.string a, .string b, .string c] w fun e w' => e = .returned (.bool true) ∧ w' = w) := fun w => bytes26_yes a b c w (by omega)
  rcases h with h | ⟨hz, h⟩
  · go_enter Try.func8, Try.ntmps8
    go_wp2_with fail
    refine (HB.out _).mono ?_
    rintro e w' ⟨rfl, rfl⟩
    go_wp2
    go_ret
    exact ⟨rfl, rfl⟩
  · obtain ⟨b0, e0⟩ : ∃ b0 : Nat, c[0].toNat = b0 := ⟨_, rfl⟩
    rw [e0] at h
    have hz' : ((c.size : Int) == 0) = false := by rw [beq_eq_false_iff_ne]; omega
    go_enter Try.func8, Try.ntmps8
    go_wp2_with fail
    refine (HB.out _).mono ?_
    rintro e w' ⟨rfl, rfl⟩
    go_wp2
    go_ret
    exact ⟨rfl, rfl⟩

theorem quick_of (c : ByteArray) (hz : 0 < c.size) (h47 : ((c[0].toNat : Int) != 47) = false) : quickB c ⟨#[]⟩ = true := by
  have hne : c.toList.isEmpty = false := by
    rw [ByteArray.toList_eq]
    obtain ⟨⟨l⟩⟩ := c
    cases l with
    | nil => simp [ByteArray.size] at hz
    | cons x l => rfl
  obtain ⟨hz', h0⟩ := head_of c hne
  have h1 : (c.toList.headD 0).toNat = 47 := by
    rw [← h0]
    have := h47
    rw [bne_eq_false_iff_eq] at this
    omega
  unfold quickB
  rw [hne, beq_iff_eq.2 h1, ByteArray.toList_eq]
  rfl

theorem info51 : ∃ j, Try.prog.info? 51 = some j ∧ j.size ≠ 0 := by
  have h : (Try.prog.info? 51).map (fun i => i.size) = some 8 := by kernel_rfl
  cases e : Try.prog.info? 51 with
  | none => rw [e] at h; cases h
  | some j =>
    rw [e] at h
    simp at h
    exact ⟨j, rfl, by omega⟩

/-- '==' between two trees' pointers -/
theorem ptr_eq {W : World} {B i j : Nat} (nd : ∀ i, i < 9 → ∃ c t, W.heap[B + i]? = some (.cells c t (0, 0))) (hi : i < 9) (hj : j < 9) :
    (binOp .eql 29 (.pointer (some ⟨B + i, 0, none⟩)) (.pointer (some ⟨B + j, 0, none⟩))).run Try.prog W = .ok (.bool (decide (i = j))) W := by
  obtain ⟨k, hk, hk0⟩ := info51
  by_cases e : i = j
  · subst e
    rw [decide_eq_true rfl]
    exact run_eql_ptr_same W _ Try.underlying29 hk
  · rw [decide_eq_false e]
    obtain ⟨ca, ta, ha⟩ := nd i hi
    obtain ⟨cb, tb, hb⟩ := nd j hj
    exact run_eql_ptr_other W Try.underlying29 hk hk0 (by simp; try exact e) ha hb

theorem ptr_neq {W : World} {B i j : Nat} (nd : ∀ i, i < 9 → ∃ c t, W.heap[B + i]? = some (.cells c t (0, 0))) (hi : i < 9) :
    (binOp .neq 29 (.pointer (some ⟨B + i, 0, none⟩)) (.pointer (some ⟨B + i, 0, none⟩))).run Try.prog W = .ok (.bool false) W := by
  obtain ⟨k, hk, hk0⟩ := info51
  exact Lib.run_neq_ptr_same W _ Try.underlying29 hk

theorem toList_ne (a b : ByteArray) (h : a ≠ b) : (a.toList == b.toList) = false := by
  rw [beq_eq_false_iff_ne]
  intro e
  rw [ByteArray.toList_eq, ByteArray.toList_eq] at e
  apply h
  cases a; cases b
  simp at e
  rw [e]

set_option maxHeartbeats 2000000 in
set_option maxRecDepth 100000 in
theorem sep_both (v : Bool) (a b c : ByteArray) (w : World) (ha : a.size ≤ 262144) (hb : b.size ≤ 262144) (hc : c.size ≤ 262144) (hz : 0 < c.size) (h47 : ((c[0].toNat : Int) != 47) = false) (ia ib : Nat) (ea : mi a = ia) (eb : mi b = ib) (iA : ia < 9) (iB : ib < 9) (hab : decide (ia = ib) = v ∧ (a.toList == b.toList) = v) :
    Calls Try.prog 8 #[.string a, .string b, .string c] w fun e w' => e = .returned (.bool true) ∧ Below w.heap.size w w' := by
  have HB : Hid (∀ w, Calls Try.prog 26 #[.string a, .string b, .string c] w fun e w' => e = .returned (.bool true) ∧ w' = w) := fun w => bytes26_yes a b c w (by omega)
  have HQ : Hid (quickB c ⟨#[]⟩ = true) := quick_of c hz h47
  have HA : Hid (mi a = ia) := ea
  have HC : Hid (mi b = ib) := eb
  have NA : Hid (∀ w, Calls Try.prog 25 #[.string a] w fun e w' => e = .returned (.bool true) ∧ w' = w) := by
    have := nine_any a
    rw [ea] at this
    rw [decide_eq_true iA] at this
    exact this
  have NB : Hid (∀ w, Calls Try.prog 25 #[.string b] w fun e w' => e = .returned (.bool true) ∧ w' = w) := by
    have := nine_any b
    rw [eb] at this
    rw [decide_eq_true iB] at this
    exact this
  clear ea eb
  obtain ⟨b0, e0⟩ : ∃ b0 : Nat, c[0].toNat = b0 := ⟨_, rfl⟩
  rw [e0] at h47
  have hz' : ((c.size : Int) == 0) = false := by rw [beq_eq_false_iff_ne]; omega
  go_enter Try.func8, Try.ntmps8
  go_wp2_with fail
  refine (HB.out _).mono ?_
  rintro e w' ⟨rfl, rfl⟩
  go_wp2_with fail
  refine (router_any _).mono ?_
  rintro e W1 ⟨r, m, rfl, c0, ci, c9, hown, hr, b1, hz1, nd⟩
  have k1 := ci ia iA
  have k2 := ci ib iB
  have ND : Hid (∀ i, i < 9 → ∃ c t, W1.heap[w'.heap.size + i]? = some (.cells c t (0, 0))) := nd
  clear c0 ci c9 hown nd
  go_wp2_with fail
  refine (quick_any r ia _ a c ⟨#[]⟩ _ hr HA.out k1).mono ?_
  rintro e W2 ⟨rfl, b2⟩
  rw [HQ.out, if_pos rfl]
  have hs1 := b1.size
  have hs2 := b2.size
  have k2' := (b2.cell (p := ⟨r, 1 + ib, none⟩) hr).trans k2
  clear k1 k2
  have hr2 : r < W2.heap.size := by omega
  go_wp2_with fail
  refine (quick_any r ib _ b c ⟨#[]⟩ _ hr2 HC.out k2').mono ?_
  rintro e W3 ⟨rfl, b3⟩
  rw [HQ.out, if_pos rfl]
  clear k2'
  go_wp2_with fail
  refine (NA.out _).mono ?_
  rintro e W4 ⟨rfl, rfl⟩
  go_wp2_with fail
  refine (NB.out _).mono ?_
  rintro e W5 ⟨rfl, rfl⟩
  have nd3 : ∀ i, i < 9 → ∃ c t, W5.heap[w'.heap.size + i]? = some (.cells c t (0, 0)) := fun i hi => by
    obtain ⟨c, t, h⟩ := ND.out i hi
    exact ⟨c, t, (b3.block _ (by omega)).trans ((b2.block _ (by omega)).trans h)⟩
  have hp := ptr_eq nd3 iA iB
  have HP := b3
  clear nd3
  have hst := hab.2
  have hpt := hab.1
  go_wp2
  go_ret
  exact ⟨by cases v <;> rfl, (b1.trans (b2.mono hs1)).trans (b3.mono (by omega))⟩

set_option maxHeartbeats 2000000 in
set_option maxRecDepth 100000 in
theorem sep_a (a b c : ByteArray) (w : World) (ha : a.size ≤ 262144) (hb : b.size ≤ 262144) (hc : c.size ≤ 262144) (hz : 0 < c.size) (h47 : ((c[0].toNat : Int) != 47) = false) (ia ib : Nat) (ea : mi a = ia) (eb : mi b = ib) (iA : ia < 9) (iB : ib = 9) :
    Calls Try.prog 8 #[.string a, .string b, .string c] w fun e w' => e = .returned (.bool true) ∧ Below w.heap.size w w' := by
  have HB : Hid (∀ w, Calls Try.prog 26 #[.string a, .string b, .string c] w fun e w' => e = .returned (.bool true) ∧ w' = w) := fun w => bytes26_yes a b c w (by omega)
  have HQ : Hid (quickB c ⟨#[]⟩ = true) := quick_of c hz h47
  have HA : Hid (mi a = ia) := ea
  have HC : Hid (mi b = ib) := eb
  have NA : Hid (∀ w, Calls Try.prog 25 #[.string a] w fun e w' => e = .returned (.bool true) ∧ w' = w) := by
    have := nine_any a
    rw [ea] at this
    rw [decide_eq_true iA] at this
    exact this
  have NB : Hid (∀ w, Calls Try.prog 25 #[.string b] w fun e w' => e = .returned (.bool false) ∧ w' = w) := by
    have := nine_any b
    rw [eb] at this
    rw [decide_eq_false (show ¬ ib < 9 by omega)] at this
    exact this
  clear ea eb
  obtain ⟨b0, e0⟩ : ∃ b0 : Nat, c[0].toNat = b0 := ⟨_, rfl⟩
  rw [e0] at h47
  have hz' : ((c.size : Int) == 0) = false := by rw [beq_eq_false_iff_ne]; omega
  go_enter Try.func8, Try.ntmps8
  go_wp2_with fail
  refine (HB.out _).mono ?_
  rintro e w' ⟨rfl, rfl⟩
  go_wp2_with fail
  refine (router_any _).mono ?_
  rintro e W1 ⟨r, m, rfl, c0, ci, c9, hown, hr, b1, hz1, nd⟩
  have k1 := ci ia iA
  have k2 : W1.cell? ⟨r, 1 + ib, none⟩ = some (.pointer none) := by rw [iB]; exact c9
  have ND : Hid (∀ i, i < 9 → ∃ c t, W1.heap[w'.heap.size + i]? = some (.cells c t (0, 0))) := nd
  clear c0 ci c9 hown nd
  go_wp2_with fail
  refine (quick_any r ia _ a c ⟨#[]⟩ _ hr HA.out k1).mono ?_
  rintro e W2 ⟨rfl, b2⟩
  rw [HQ.out, if_pos rfl]
  have hs1 := b1.size
  have hs2 := b2.size
  have k2' := (b2.cell (p := ⟨r, 1 + ib, none⟩) hr).trans k2
  clear k1 k2
  have hr2 : r < W2.heap.size := by omega
  go_wp2_with fail
  refine (quick_any r ib _ b c ⟨#[]⟩ _ hr2 HC.out k2').mono ?_
  rintro e W3 ⟨rfl, b3⟩
  rw [HQ.out, if_pos rfl]
  clear k2'
  go_wp2_with fail
  refine (NA.out _).mono ?_
  rintro e W4 ⟨rfl, rfl⟩
  go_wp2_with fail
  refine (NB.out _).mono ?_
  rintro e W5 ⟨rfl, rfl⟩
  go_wp2
  go_ret
  exact ⟨rfl, (b1.trans (b2.mono hs1)).trans (b3.mono (by omega))⟩

set_option maxHeartbeats 2000000 in
set_option maxRecDepth 100000 in
theorem sep_b (a b c : ByteArray) (w : World) (ha : a.size ≤ 262144) (hb : b.size ≤ 262144) (hc : c.size ≤ 262144) (hz : 0 < c.size) (h47 : ((c[0].toNat : Int) != 47) = false) (ia ib : Nat) (ea : mi a = ia) (eb : mi b = ib) (iA : ia = 9) (iB : ib < 9) :
    Calls Try.prog 8 #[.string a, .string b, .string c] w fun e w' => e = .returned (.bool true) ∧ Below w.heap.size w w' := by
  have HB : Hid (∀ w, Calls Try.prog 26 #[.string a, .string b, .string c] w fun e w' => e = .returned (.bool true) ∧ w' = w) := fun w => bytes26_yes a b c w (by omega)
  have HQ : Hid (quickB c ⟨#[]⟩ = true) := quick_of c hz h47
  have HA : Hid (mi a = ia) := ea
  have HC : Hid (mi b = ib) := eb
  have NA : Hid (∀ w, Calls Try.prog 25 #[.string a] w fun e w' => e = .returned (.bool false) ∧ w' = w) := by
    have := nine_any a
    rw [ea] at this
    rw [decide_eq_false (show ¬ ia < 9 by omega)] at this
    exact this
  have NB : Hid (∀ w, Calls Try.prog 25 #[.string b] w fun e w' => e = .returned (.bool true) ∧ w' = w) := by
    have := nine_any b
    rw [eb] at this
    rw [decide_eq_true iB] at this
    exact this
  clear ea eb
  obtain ⟨b0, e0⟩ : ∃ b0 : Nat, c[0].toNat = b0 := ⟨_, rfl⟩
  rw [e0] at h47
  have hz' : ((c.size : Int) == 0) = false := by rw [beq_eq_false_iff_ne]; omega
  go_enter Try.func8, Try.ntmps8
  go_wp2_with fail
  refine (HB.out _).mono ?_
  rintro e w' ⟨rfl, rfl⟩
  go_wp2_with fail
  refine (router_any _).mono ?_
  rintro e W1 ⟨r, m, rfl, c0, ci, c9, hown, hr, b1, hz1, nd⟩
  have k1 : W1.cell? ⟨r, 1 + ia, none⟩ = some (.pointer none) := by rw [iA]; exact c9
  have k2 := ci ib iB
  have ND : Hid (∀ i, i < 9 → ∃ c t, W1.heap[w'.heap.size + i]? = some (.cells c t (0, 0))) := nd
  clear c0 ci c9 hown nd
  go_wp2_with fail
  refine (quick_any r ia _ a c ⟨#[]⟩ _ hr HA.out k1).mono ?_
  rintro e W2 ⟨rfl, b2⟩
  rw [HQ.out, if_pos rfl]
  have hs1 := b1.size
  have hs2 := b2.size
  have k2' := (b2.cell (p := ⟨r, 1 + ib, none⟩) hr).trans k2
  clear k1 k2
  have hr2 : r < W2.heap.size := by omega
  go_wp2_with fail
  refine (quick_any r ib _ b c ⟨#[]⟩ _ hr2 HC.out k2').mono ?_
  rintro e W3 ⟨rfl, b3⟩
  rw [HQ.out, if_pos rfl]
  clear k2'
  go_wp2_with fail
  refine (NA.out _).mono ?_
  rintro e W4 ⟨rfl, rfl⟩
  go_wp2_with fail
  refine (NB.out _).mono ?_
  rintro e W5 ⟨rfl, rfl⟩
  go_wp2
  go_ret
  exact ⟨rfl, (b1.trans (b2.mono hs1)).trans (b3.mono (by omega))⟩

set_option maxHeartbeats 2000000 in
set_option maxRecDepth 100000 in
theorem sep_none (a b c : ByteArray) (w : World) (ha : a.size ≤ 262144) (hb : b.size ≤ 262144) (hc : c.size ≤ 262144) (hz : 0 < c.size) (h47 : ((c[0].toNat : Int) != 47) = false) (ia ib : Nat) (ea : mi a = ia) (eb : mi b = ib) (iA : ia = 9) (iB : ib = 9) :
    Calls Try.prog 8 #[.string a, .string b, .string c] w fun e w' => e = .returned (.bool true) ∧ Below w.heap.size w w' := by
  have HB : Hid (∀ w, Calls Try.prog 26 #[.string a, .string b, .string c] w fun e w' => e = .returned (.bool true) ∧ w' = w) := fun w => bytes26_yes a b c w (by omega)
  have HQ : Hid (quickB c ⟨#[]⟩ = true) := quick_of c hz h47
  have HA : Hid (mi a = ia) := ea
  have HC : Hid (mi b = ib) := eb
  have NA : Hid (∀ w, Calls Try.prog 25 #[.string a] w fun e w' => e = .returned (.bool false) ∧ w' = w) := by
    have := nine_any a
    rw [ea] at this
    rw [decide_eq_false (show ¬ ia < 9 by omega)] at this
    exact this
  have NB : Hid (∀ w, Calls Try.prog 25 #[.string b] w fun e w' => e = .returned (.bool false) ∧ w' = w) := by
    have := nine_any b
    rw [eb] at this
    rw [decide_eq_false (show ¬ ib < 9 by omega)] at this
    exact this
  clear ea eb
  obtain ⟨b0, e0⟩ : ∃ b0 : Nat, c[0].toNat = b0 := ⟨_, rfl⟩
  rw [e0] at h47
  have hz' : ((c.size : Int) == 0) = false := by rw [beq_eq_false_iff_ne]; omega
  go_enter Try.func8, Try.ntmps8
  go_wp2_with fail
  refine (HB.out _).mono ?_
  rintro e w' ⟨rfl, rfl⟩
  go_wp2_with fail
  refine (router_any _).mono ?_
  rintro e W1 ⟨r, m, rfl, c0, ci, c9, hown, hr, b1, hz1, nd⟩
  have k1 : W1.cell? ⟨r, 1 + ia, none⟩ = some (.pointer none) := by rw [iA]; exact c9
  have k2 : W1.cell? ⟨r, 1 + ib, none⟩ = some (.pointer none) := by rw [iB]; exact c9
  have ND : Hid (∀ i, i < 9 → ∃ c t, W1.heap[w'.heap.size + i]? = some (.cells c t (0, 0))) := nd
  clear c0 ci c9 hown nd
  go_wp2_with fail
  refine (quick_any r ia _ a c ⟨#[]⟩ _ hr HA.out k1).mono ?_
  rintro e W2 ⟨rfl, b2⟩
  rw [HQ.out, if_pos rfl]
  have hs1 := b1.size
  have hs2 := b2.size
  have k2' := (b2.cell (p := ⟨r, 1 + ib, none⟩) hr).trans k2
  clear k1 k2
  have hr2 : r < W2.heap.size := by omega
  go_wp2_with fail
  refine (quick_any r ib _ b c ⟨#[]⟩ _ hr2 HC.out k2').mono ?_
  rintro e W3 ⟨rfl, b3⟩
  rw [HQ.out, if_pos rfl]
  clear k2'
  go_wp2_with fail
  refine (NA.out _).mono ?_
  rintro e W4 ⟨rfl, rfl⟩
  go_wp2_with fail
  refine (NB.out _).mono ?_
  rintro e W5 ⟨rfl, rfl⟩
  go_wp2
  go_ret
  exact ⟨rfl, (b1.trans (b2.mono hs1)).trans (b3.mono (by omega))⟩


theorem sep_any (a b c : ByteArray) (w : World) (ha : a.size ≤ maxLen) (hb : b.size ≤ maxLen) (hc : c.size ≤ maxLen) :
    Calls Try.prog 8 #[.string a, .string b, .string c] w fun e w' => e = .returned (.bool true) ∧ Below w.heap.size w w' := by
  have same : (Calls Try.prog 8 #[.string a, .string b, .string c] w fun e w' => e = .returned (.bool true) ∧ w' = w) → Calls Try.prog 8 #[.string a, .string b, .string c] w fun e w' => e = .returned (.bool true) ∧ Below w.heap.size w w' := by
    intro h
    refine h.mono fun e w' ⟨he, hw⟩ => ?_
    subst hw
    exact ⟨he, Below.refl _ _⟩
  by_cases h1 : a.size + b.size + c.size ≤ 1048576
  · by_cases h2 : a.size ≤ 262144 ∧ b.size ≤ 262144 ∧ c.size ≤ 262144
    · obtain ⟨pa, pb, pc⟩ := h2
      by_cases hz : 0 < c.size
      · cases h47 : ((c[0].toNat : Int) != 47)
        · have la := mi_le a
          have lb := mi_le b
          by_cases iA : mi a < 9
          · by_cases iB : mi b < 9
            · refine sep_both (decide (mi a = mi b)) a b c w pa pb pc hz h47 _ _ rfl rfl iA iB ⟨rfl, ?_⟩
              by_cases e : mi a = mi b
              · rw [decide_eq_true e, mi_inj a b iA e, beq_iff_eq]
              · rw [decide_eq_false e]
                exact toList_ne a b (fun h => e (by rw [h]))
            · exact sep_a a b c w pa pb pc hz h47 _ _ rfl rfl iA (by omega)
          · by_cases iB : mi b < 9
            · exact sep_b a b c w pa pb pc hz h47 _ _ rfl rfl (by omega) iB
            · exact sep_none a b c w pa pb pc hz h47 _ _ rfl rfl (by omega) (by omega)
        · exact same (sep_slash a b c w pa pb pc (Or.inr ⟨hz, h47⟩))
      · exact same (sep_slash a b c w pa pb pc (Or.inl (by omega)))
    · exact same (sep_mid a b c w h1 h2)
  · exact same (sep_big a b c w ha hb hc (by omega))

theorem slash_quick : quickB ⟨#[47]⟩ ⟨#[]⟩ = true := by
  unfold quickB
  rw [ByteArray.toList_eq, ByteArray.toList_eq]
  rfl

theorem quick_tests (b c : ByteArray) : (quickB b c = true ∧ c.toList.isEmpty = true ∧ ∃ hz : 0 < b.size, ((b[0].toNat : Int) == 47) = true) ∨
    (quickB b c = false ∧ (c.toList.isEmpty = false ∨ (c.toList.isEmpty = true ∧ b.size = 0) ∨ (c.toList.isEmpty = true ∧ ∃ hz : 0 < b.size, ((b[0].toNat : Int) == 47) = false))) := by
  unfold quickB
  cases h1 : c.toList.isEmpty
  · exact Or.inr ⟨rfl, Or.inl rfl⟩
  · cases h2 : b.toList.isEmpty
    · obtain ⟨hz, h0⟩ := head_of b h2
      by_cases h47 : (b.toList.headD 0).toNat = 47
      · exact Or.inl ⟨by rw [beq_iff_eq.2 h47]; rfl, rfl, hz, by rw [h0, h47]; rfl⟩
      · exact Or.inr ⟨by rw [beq_eq_false_iff_ne.2 h47]; rfl, Or.inr (Or.inr ⟨rfl, hz, by rw [h0, beq_eq_false_iff_ne]; omega⟩)⟩
    · refine Or.inr ⟨rfl, Or.inr (Or.inl ⟨rfl, ?_⟩)⟩
      rw [ByteArray.toList_eq] at h2
      obtain ⟨⟨l⟩⟩ := b
      cases l with
      | nil => rfl
      | cons x l => simp at h2

set_option maxHeartbeats 2000000 in
set_option maxRecDepth 100000 in
theorem own_yq (a b c : ByteArray) (w : World) (ha : a.size ≤ 262144) (hb : b.size ≤ 262144) (hc : c.size ≤ 262144) (ia : Nat) (ea : mi a = ia) (iA : ia < 9) (hq : quickB b c = true) (hraw : c.toList.isEmpty = true) (hz : 0 < b.size) (h47 : ((b[0].toNat : Int) == 47) = true) :
    Calls Try.prog 7 #[.string a, .string b, .string c] w fun e w' => e = .returned (.bool true) ∧ Below w.heap.size w w' := by
  have HB : Hid (∀ w, Calls Try.prog 21 #[.string a, .string b, .string c] w fun e w' => e = .returned (.bool true) ∧ w' = w) := fun w => bytes21_yes a b c w (by omega)
  have HQ : Hid (quickB b c = true) := hq
  have HS : Hid (quickB ⟨#[47]⟩ ⟨#[]⟩ = true) := slash_quick
  have HA : Hid (mi a = ia) := ea
  have HM : Hid (a.size ≤ maxLen) := show a.size ≤ maxLen by unfold maxLen; omega
  have NA : Hid (∀ w, Calls Try.prog 25 #[.string a] w fun e w' => e = .returned (.bool true) ∧ w' = w) := by
    have := nine_any a
    rw [ea] at this
    rw [decide_eq_true iA] at this
    exact this
  have TA : Hid (∀ B, tp B (mi a) = some ⟨B + ia, 0, none⟩) := fun B => by
    rw [ea]; unfold tp; rw [if_pos iA]
  clear ea hq
  obtain ⟨b0, e0⟩ : ∃ b0 : Nat, b[0].toNat = b0 := ⟨_, rfl⟩
  rw [e0] at h47
  go_enter Try.func7, Try.ntmps7
  go_wp2_with fail
  refine (HB.out _).mono ?_
  rintro e w' ⟨rfl, rfl⟩
  go_wp2_with fail
  refine (router_any _).mono ?_
  rintro e W1 ⟨r, m, rfl, c0, ci, c9, hown, hr, b1, hz1, nd⟩
  have k1 := ci ia iA
  have ND : Hid (∀ i, i < 9 → ∃ c t, W1.heap[w'.heap.size + i]? = some (.cells c t (0, 0))) := nd
  clear ci c9 nd
  go_wp2_with fail
  refine (quick_any r ia _ a b c _ hr HA.out k1).mono ?_
  rintro e W2 ⟨rfl, b2⟩
  rw [HQ.out, if_pos rfl]
  have hs1 := b1.size
  have hs2 := b2.size
  have k2 := (b2.cell (p := ⟨r, 1 + ia, none⟩) hr).trans k1
  have c2 := (b2.cell (p := ⟨r, 0, none⟩) hr).trans c0
  have own2 := hown.kept (show W1.grownBy W2 Option.none from ⟨b2.os, b2.tape, b2.output, b2.size, fun i hi _ => b2.block i hi⟩) (by simp)
  clear k1 c0 hown
  have hr2 : r < W2.heap.size := by omega
  go_wp2_with fail
  refine (quick_any r ia _ a ⟨#[47]⟩ ⟨#[]⟩ _ hr2 HA.out k2).mono ?_
  rintro e W3 ⟨rfl, b3⟩
  rw [HS.out, if_pos rfl]
  have c3 := (b3.cell (p := ⟨r, 0, none⟩) hr2).trans c2
  have own3 := own2.kept (show W2.grownBy W3 Option.none from ⟨b3.os, b3.tape, b3.output, b3.size, fun i hi _ => b3.block i hi⟩) (by simp)
  clear k2 c2 own2
  go_wp2_with fail
  refine (tree_any r m _ a _ HM.out c3 own3).mono ?_
  rintro e W4 ⟨rfl, rfl⟩
  rw [TA.out]
  clear c3 own3
  have nd3 : ∀ i, i < 9 → ∃ c t, W4.heap[w'.heap.size + i]? = some (.cells c t (0, 0)) := fun i hi => by
    obtain ⟨c, t, h⟩ := ND.out i hi
    exact ⟨c, t, (b3.block _ (by omega)).trans ((b2.block _ (by omega)).trans h)⟩
  have hp := ptr_eq nd3 iA iA
  rw [decide_eq_true rfl] at hp
  have hn := ptr_neq (j := 0) nd3 iA
  clear nd3
  go_wp2_with fail
  refine (NA.out _).mono ?_
  rintro e W5 ⟨rfl, rfl⟩
  go_wp2
  go_ret
  exact ⟨rfl, (b1.trans (b2.mono hs1)).trans (b3.mono (by omega))⟩

set_option maxHeartbeats 2000000 in
set_option maxRecDepth 100000 in
theorem own_y1 (a b c : ByteArray) (w : World) (ha : a.size ≤ 262144) (hb : b.size ≤ 262144) (hc : c.size ≤ 262144) (ia : Nat) (ea : mi a = ia) (iA : ia < 9) (hq : quickB b c = false) (hraw : c.toList.isEmpty = false) :
    Calls Try.prog 7 #[.string a, .string b, .string c] w fun e w' => e = .returned (.bool true) ∧ Below w.heap.size w w' := by
  have HB : Hid (∀ w, Calls Try.prog 21 #[.string a, .string b, .string c] w fun e w' => e = .returned (.bool true) ∧ w' = w) := fun w => bytes21_yes a b c w (by omega)
  have HQ : Hid (quickB b c = false) := hq
  have HS : Hid (quickB ⟨#[47]⟩ ⟨#[]⟩ = true) := slash_quick
  have HA : Hid (mi a = ia) := ea
  have HM : Hid (a.size ≤ maxLen) := show a.size ≤ maxLen by unfold maxLen; omega
  have NA : Hid (∀ w, Calls Try.prog 25 #[.string a] w fun e w' => e = .returned (.bool true) ∧ w' = w) := by
    have := nine_any a
    rw [ea] at this
    rw [decide_eq_true iA] at this
    exact this
  have TA : Hid (∀ B, tp B (mi a) = some ⟨B + ia, 0, none⟩) := fun B => by
    rw [ea]; unfold tp; rw [if_pos iA]
  clear ea hq
  skip
  go_enter Try.func7, Try.ntmps7
  go_wp2_with fail
  refine (HB.out _).mono ?_
  rintro e w' ⟨rfl, rfl⟩
  go_wp2_with fail
  refine (router_any _).mono ?_
  rintro e W1 ⟨r, m, rfl, c0, ci, c9, hown, hr, b1, hz1, nd⟩
  have k1 := ci ia iA
  have ND : Hid (∀ i, i < 9 → ∃ c t, W1.heap[w'.heap.size + i]? = some (.cells c t (0, 0))) := nd
  clear ci c9 nd
  go_wp2_with fail
  refine (quick_any r ia _ a b c _ hr HA.out k1).mono ?_
  rintro e W2 ⟨rfl, b2⟩
  rw [HQ.out, if_neg (by decide)]
  have hs1 := b1.size
  have hs2 := b2.size
  have k2 := (b2.cell (p := ⟨r, 1 + ia, none⟩) hr).trans k1
  have c2 := (b2.cell (p := ⟨r, 0, none⟩) hr).trans c0
  have own2 := hown.kept (show W1.grownBy W2 Option.none from ⟨b2.os, b2.tape, b2.output, b2.size, fun i hi _ => b2.block i hi⟩) (by simp)
  clear k1 c0 hown
  have hr2 : r < W2.heap.size := by omega
  go_wp2_with fail
  refine (quick_any r ia _ a ⟨#[47]⟩ ⟨#[]⟩ _ hr2 HA.out k2).mono ?_
  rintro e W3 ⟨rfl, b3⟩
  rw [HS.out, if_pos rfl]
  have c3 := (b3.cell (p := ⟨r, 0, none⟩) hr2).trans c2
  have own3 := own2.kept (show W2.grownBy W3 Option.none from ⟨b3.os, b3.tape, b3.output, b3.size, fun i hi _ => b3.block i hi⟩) (by simp)
  clear k2 c2 own2
  go_wp2_with fail
  refine (tree_any r m _ a _ HM.out c3 own3).mono ?_
  rintro e W4 ⟨rfl, rfl⟩
  rw [TA.out]
  clear c3 own3
  have nd3 : ∀ i, i < 9 → ∃ c t, W4.heap[w'.heap.size + i]? = some (.cells c t (0, 0)) := fun i hi => by
    obtain ⟨c, t, h⟩ := ND.out i hi
    exact ⟨c, t, (b3.block _ (by omega)).trans ((b2.block _ (by omega)).trans h)⟩
  have hp := ptr_eq nd3 iA iA
  rw [decide_eq_true rfl] at hp
  have hn := ptr_neq (j := 0) nd3 iA
  clear nd3
  go_wp2_with fail
  refine (NA.out _).mono ?_
  rintro e W5 ⟨rfl, rfl⟩
  go_wp2
  go_ret
  exact ⟨rfl, (b1.trans (b2.mono hs1)).trans (b3.mono (by omega))⟩

set_option maxHeartbeats 2000000 in
set_option maxRecDepth 100000 in
theorem own_y2 (a b c : ByteArray) (w : World) (ha : a.size ≤ 262144) (hb : b.size ≤ 262144) (hc : c.size ≤ 262144) (ia : Nat) (ea : mi a = ia) (iA : ia < 9) (hq : quickB b c = false) (hraw : c.toList.isEmpty = true) (hz : b.size ≤ 0) :
    Calls Try.prog 7 #[.string a, .string b, .string c] w fun e w' => e = .returned (.bool true) ∧ Below w.heap.size w w' := by
  have HB : Hid (∀ w, Calls Try.prog 21 #[.string a, .string b, .string c] w fun e w' => e = .returned (.bool true) ∧ w' = w) := fun w => bytes21_yes a b c w (by omega)
  have HQ : Hid (quickB b c = false) := hq
  have HS : Hid (quickB ⟨#[47]⟩ ⟨#[]⟩ = true) := slash_quick
  have HA : Hid (mi a = ia) := ea
  have HM : Hid (a.size ≤ maxLen) := show a.size ≤ maxLen by unfold maxLen; omega
  have NA : Hid (∀ w, Calls Try.prog 25 #[.string a] w fun e w' => e = .returned (.bool true) ∧ w' = w) := by
    have := nine_any a
    rw [ea] at this
    rw [decide_eq_true iA] at this
    exact this
  have TA : Hid (∀ B, tp B (mi a) = some ⟨B + ia, 0, none⟩) := fun B => by
    rw [ea]; unfold tp; rw [if_pos iA]
  clear ea hq
  skip
  go_enter Try.func7, Try.ntmps7
  go_wp2_with fail
  refine (HB.out _).mono ?_
  rintro e w' ⟨rfl, rfl⟩
  go_wp2_with fail
  refine (router_any _).mono ?_
  rintro e W1 ⟨r, m, rfl, c0, ci, c9, hown, hr, b1, hz1, nd⟩
  have k1 := ci ia iA
  have ND : Hid (∀ i, i < 9 → ∃ c t, W1.heap[w'.heap.size + i]? = some (.cells c t (0, 0))) := nd
  clear ci c9 nd
  go_wp2_with fail
  refine (quick_any r ia _ a b c _ hr HA.out k1).mono ?_
  rintro e W2 ⟨rfl, b2⟩
  rw [HQ.out, if_neg (by decide)]
  have hs1 := b1.size
  have hs2 := b2.size
  have k2 := (b2.cell (p := ⟨r, 1 + ia, none⟩) hr).trans k1
  have c2 := (b2.cell (p := ⟨r, 0, none⟩) hr).trans c0
  have own2 := hown.kept (show W1.grownBy W2 Option.none from ⟨b2.os, b2.tape, b2.output, b2.size, fun i hi _ => b2.block i hi⟩) (by simp)
  clear k1 c0 hown
  have hr2 : r < W2.heap.size := by omega
  go_wp2_with fail
  refine (quick_any r ia _ a ⟨#[47]⟩ ⟨#[]⟩ _ hr2 HA.out k2).mono ?_
  rintro e W3 ⟨rfl, b3⟩
  rw [HS.out, if_pos rfl]
  have c3 := (b3.cell (p := ⟨r, 0, none⟩) hr2).trans c2
  have own3 := own2.kept (show W2.grownBy W3 Option.none from ⟨b3.os, b3.tape, b3.output, b3.size, fun i hi _ => b3.block i hi⟩) (by simp)
  clear k2 c2 own2
  go_wp2_with fail
  refine (tree_any r m _ a _ HM.out c3 own3).mono ?_
  rintro e W4 ⟨rfl, rfl⟩
  rw [TA.out]
  clear c3 own3
  have nd3 : ∀ i, i < 9 → ∃ c t, W4.heap[w'.heap.size + i]? = some (.cells c t (0, 0)) := fun i hi => by
    obtain ⟨c, t, h⟩ := ND.out i hi
    exact ⟨c, t, (b3.block _ (by omega)).trans ((b2.block _ (by omega)).trans h)⟩
  have hp := ptr_eq nd3 iA iA
  rw [decide_eq_true rfl] at hp
  have hn := ptr_neq (j := 0) nd3 iA
  clear nd3
  go_wp2_with fail
  refine (NA.out _).mono ?_
  rintro e W5 ⟨rfl, rfl⟩
  go_wp2
  go_ret
  exact ⟨rfl, (b1.trans (b2.mono hs1)).trans (b3.mono (by omega))⟩

set_option maxHeartbeats 2000000 in
set_option maxRecDepth 100000 in
theorem own_y3 (a b c : ByteArray) (w : World) (ha : a.size ≤ 262144) (hb : b.size ≤ 262144) (hc : c.size ≤ 262144) (ia : Nat) (ea : mi a = ia) (iA : ia < 9) (hq : quickB b c = false) (hraw : c.toList.isEmpty = true) (hz : 0 < b.size) (h47 : ((b[0].toNat : Int) == 47) = false) :
    Calls Try.prog 7 #[.string a, .string b, .string c] w fun e w' => e = .returned (.bool true) ∧ Below w.heap.size w w' := by
  have HB : Hid (∀ w, Calls Try.prog 21 #[.string a, .string b, .string c] w fun e w' => e = .returned (.bool true) ∧ w' = w) := fun w => bytes21_yes a b c w (by omega)
  have HQ : Hid (quickB b c = false) := hq
  have HS : Hid (quickB ⟨#[47]⟩ ⟨#[]⟩ = true) := slash_quick
  have HA : Hid (mi a = ia) := ea
  have HM : Hid (a.size ≤ maxLen) := show a.size ≤ maxLen by unfold maxLen; omega
  have NA : Hid (∀ w, Calls Try.prog 25 #[.string a] w fun e w' => e = .returned (.bool true) ∧ w' = w) := by
    have := nine_any a
    rw [ea] at this
    rw [decide_eq_true iA] at this
    exact this
  have TA : Hid (∀ B, tp B (mi a) = some ⟨B + ia, 0, none⟩) := fun B => by
    rw [ea]; unfold tp; rw [if_pos iA]
  clear ea hq
  obtain ⟨b0, e0⟩ : ∃ b0 : Nat, b[0].toNat = b0 := ⟨_, rfl⟩
  rw [e0] at h47
  go_enter Try.func7, Try.ntmps7
  go_wp2_with fail
  refine (HB.out _).mono ?_
  rintro e w' ⟨rfl, rfl⟩
  go_wp2_with fail
  refine (router_any _).mono ?_
  rintro e W1 ⟨r, m, rfl, c0, ci, c9, hown, hr, b1, hz1, nd⟩
  have k1 := ci ia iA
  have ND : Hid (∀ i, i < 9 → ∃ c t, W1.heap[w'.heap.size + i]? = some (.cells c t (0, 0))) := nd
  clear ci c9 nd
  go_wp2_with fail
  refine (quick_any r ia _ a b c _ hr HA.out k1).mono ?_
  rintro e W2 ⟨rfl, b2⟩
  rw [HQ.out, if_neg (by decide)]
  have hs1 := b1.size
  have hs2 := b2.size
  have k2 := (b2.cell (p := ⟨r, 1 + ia, none⟩) hr).trans k1
  have c2 := (b2.cell (p := ⟨r, 0, none⟩) hr).trans c0
  have own2 := hown.kept (show W1.grownBy W2 Option.none from ⟨b2.os, b2.tape, b2.output, b2.size, fun i hi _ => b2.block i hi⟩) (by simp)
  clear k1 c0 hown
  have hr2 : r < W2.heap.size := by omega
  go_wp2_with fail
  refine (quick_any r ia _ a ⟨#[47]⟩ ⟨#[]⟩ _ hr2 HA.out k2).mono ?_
  rintro e W3 ⟨rfl, b3⟩
  rw [HS.out, if_pos rfl]
  have c3 := (b3.cell (p := ⟨r, 0, none⟩) hr2).trans c2
  have own3 := own2.kept (show W2.grownBy W3 Option.none from ⟨b3.os, b3.tape, b3.output, b3.size, fun i hi _ => b3.block i hi⟩) (by simp)
  clear k2 c2 own2
  go_wp2_with fail
  refine (tree_any r m _ a _ HM.out c3 own3).mono ?_
  rintro e W4 ⟨rfl, rfl⟩
  rw [TA.out]
  clear c3 own3
  have nd3 : ∀ i, i < 9 → ∃ c t, W4.heap[w'.heap.size + i]? = some (.cells c t (0, 0)) := fun i hi => by
    obtain ⟨c, t, h⟩ := ND.out i hi
    exact ⟨c, t, (b3.block _ (by omega)).trans ((b2.block _ (by omega)).trans h)⟩
  have hp := ptr_eq nd3 iA iA
  rw [decide_eq_true rfl] at hp
  have hn := ptr_neq (j := 0) nd3 iA
  clear nd3
  go_wp2_with fail
  refine (NA.out _).mono ?_
  rintro e W5 ⟨rfl, rfl⟩
  go_wp2
  go_ret
  exact ⟨rfl, (b1.trans (b2.mono hs1)).trans (b3.mono (by omega))⟩

set_option maxHeartbeats 2000000 in
set_option maxRecDepth 100000 in
theorem own_nq (a b c : ByteArray) (w : World) (ha : a.size ≤ 262144) (hb : b.size ≤ 262144) (hc : c.size ≤ 262144) (ia : Nat) (ea : mi a = ia) (iA : ia = 9) (hq : quickB b c = true) (hraw : c.toList.isEmpty = true) (hz : 0 < b.size) (h47 : ((b[0].toNat : Int) == 47) = true) :
    Calls Try.prog 7 #[.string a, .string b, .string c] w fun e w' => e = .returned (.bool true) ∧ Below w.heap.size w w' := by
  have HB : Hid (∀ w, Calls Try.prog 21 #[.string a, .string b, .string c] w fun e w' => e = .returned (.bool true) ∧ w' = w) := fun w => bytes21_yes a b c w (by omega)
  have HQ : Hid (quickB b c = true) := hq
  have HS : Hid (quickB ⟨#[47]⟩ ⟨#[]⟩ = true) := slash_quick
  have HA : Hid (mi a = ia) := ea
  have HM : Hid (a.size ≤ maxLen) := show a.size ≤ maxLen by unfold maxLen; omega
  have NA : Hid (∀ w, Calls Try.prog 25 #[.string a] w fun e w' => e = .returned (.bool false) ∧ w' = w) := by
    have := nine_any a
    rw [ea] at this
    rw [decide_eq_false (show ¬ ia < 9 by omega)] at this
    exact this
  have TA : Hid (∀ B, tp B (mi a) = none) := fun B => by
    rw [ea]; unfold tp; rw [if_neg (by omega)]
  clear ea hq
  obtain ⟨b0, e0⟩ : ∃ b0 : Nat, b[0].toNat = b0 := ⟨_, rfl⟩
  rw [e0] at h47
  go_enter Try.func7, Try.ntmps7
  go_wp2_with fail
  refine (HB.out _).mono ?_
  rintro e w' ⟨rfl, rfl⟩
  go_wp2_with fail
  refine (router_any _).mono ?_
  rintro e W1 ⟨r, m, rfl, c0, ci, c9, hown, hr, b1, hz1, nd⟩
  have k1 : W1.cell? ⟨r, 1 + ia, none⟩ = some (.pointer none) := by rw [iA]; exact c9
  have ND : Hid (∀ i, i < 9 → ∃ c t, W1.heap[w'.heap.size + i]? = some (.cells c t (0, 0))) := nd
  clear ci c9 nd
  go_wp2_with fail
  refine (quick_any r ia _ a b c _ hr HA.out k1).mono ?_
  rintro e W2 ⟨rfl, b2⟩
  rw [HQ.out, if_pos rfl]
  have hs1 := b1.size
  have hs2 := b2.size
  have k2 := (b2.cell (p := ⟨r, 1 + ia, none⟩) hr).trans k1
  have c2 := (b2.cell (p := ⟨r, 0, none⟩) hr).trans c0
  have own2 := hown.kept (show W1.grownBy W2 Option.none from ⟨b2.os, b2.tape, b2.output, b2.size, fun i hi _ => b2.block i hi⟩) (by simp)
  clear k1 c0 hown
  have hr2 : r < W2.heap.size := by omega
  go_wp2_with fail
  refine (quick_any r ia _ a ⟨#[47]⟩ ⟨#[]⟩ _ hr2 HA.out k2).mono ?_
  rintro e W3 ⟨rfl, b3⟩
  rw [HS.out, if_pos rfl]
  have c3 := (b3.cell (p := ⟨r, 0, none⟩) hr2).trans c2
  have own3 := own2.kept (show W2.grownBy W3 Option.none from ⟨b3.os, b3.tape, b3.output, b3.size, fun i hi _ => b3.block i hi⟩) (by simp)
  clear k2 c2 own2
  go_wp2_with fail
  refine (tree_any r m _ a _ HM.out c3 own3).mono ?_
  rintro e W4 ⟨rfl, rfl⟩
  rw [TA.out]
  clear c3 own3
  have nd3 : ∀ i, i < 9 → ∃ c t, W4.heap[w'.heap.size + i]? = some (.cells c t (0, 0)) := fun i hi => by
    obtain ⟨c, t, h⟩ := ND.out i hi
    exact ⟨c, t, (b3.block _ (by omega)).trans ((b2.block _ (by omega)).trans h)⟩
  skip
  skip
  skip
  clear nd3
  go_wp2_with fail
  refine (NA.out _).mono ?_
  rintro e W5 ⟨rfl, rfl⟩
  go_wp2
  go_ret
  exact ⟨rfl, (b1.trans (b2.mono hs1)).trans (b3.mono (by omega))⟩

set_option maxHeartbeats 2000000 in
set_option maxRecDepth 100000 in
theorem own_n1 (a b c : ByteArray) (w : World) (ha : a.size ≤ 262144) (hb : b.size ≤ 262144) (hc : c.size ≤ 262144) (ia : Nat) (ea : mi a = ia) (iA : ia = 9) (hq : quickB b c = false) (hraw : c.toList.isEmpty = false) :
    Calls Try.prog 7 #[.string a, .string b, .string c] w fun e w' => e = .returned (.bool true) ∧ Below w.heap.size w w' := by
  have HB : Hid (∀ w, Calls Try.prog 21 #[.string a, .string b, .string c] w fun e w' => e = .returned (.bool true) ∧ w' = w) := fun w => bytes21_yes a b c w (by omega)
  have HQ : Hid (quickB b c = false) := hq
  have HS : Hid (quickB ⟨#[47]⟩ ⟨#[]⟩ = true) := slash_quick
  have HA : Hid (mi a = ia) := ea
  have HM : Hid (a.size ≤ maxLen) := show a.size ≤ maxLen by unfold maxLen; omega
  have NA : Hid (∀ w, Calls Try.prog 25 #[.string a] w fun e w' => e = .returned (.bool false) ∧ w' = w) := by
    have := nine_any a
    rw [ea] at this
    rw [decide_eq_false (show ¬ ia < 9 by omega)] at this
    exact this
  have TA : Hid (∀ B, tp B (mi a) = none) := fun B => by
    rw [ea]; unfold tp; rw [if_neg (by omega)]
  clear ea hq
  skip
  go_enter Try.func7, Try.ntmps7
  go_wp2_with fail
  refine (HB.out _).mono ?_
  rintro e w' ⟨rfl, rfl⟩
  go_wp2_with fail
  refine (router_any _).mono ?_
  rintro e W1 ⟨r, m, rfl, c0, ci, c9, hown, hr, b1, hz1, nd⟩
  have k1 : W1.cell? ⟨r, 1 + ia, none⟩ = some (.pointer none) := by rw [iA]; exact c9
  have ND : Hid (∀ i, i < 9 → ∃ c t, W1.heap[w'.heap.size + i]? = some (.cells c t (0, 0))) := nd
  clear ci c9 nd
  go_wp2_with fail
  refine (quick_any r ia _ a b c _ hr HA.out k1).mono ?_
  rintro e W2 ⟨rfl, b2⟩
  rw [HQ.out, if_neg (by decide)]
  have hs1 := b1.size
  have hs2 := b2.size
  have k2 := (b2.cell (p := ⟨r, 1 + ia, none⟩) hr).trans k1
  have c2 := (b2.cell (p := ⟨r, 0, none⟩) hr).trans c0
  have own2 := hown.kept (show W1.grownBy W2 Option.none from ⟨b2.os, b2.tape, b2.output, b2.size, fun i hi _ => b2.block i hi⟩) (by simp)
  clear k1 c0 hown
  have hr2 : r < W2.heap.size := by omega
  go_wp2_with fail
  refine (quick_any r ia _ a ⟨#[47]⟩ ⟨#[]⟩ _ hr2 HA.out k2).mono ?_
  rintro e W3 ⟨rfl, b3⟩
  rw [HS.out, if_pos rfl]
  have c3 := (b3.cell (p := ⟨r, 0, none⟩) hr2).trans c2
  have own3 := own2.kept (show W2.grownBy W3 Option.none from ⟨b3.os, b3.tape, b3.output, b3.size, fun i hi _ => b3.block i hi⟩) (by simp)
  clear k2 c2 own2
  go_wp2_with fail
  refine (tree_any r m _ a _ HM.out c3 own3).mono ?_
  rintro e W4 ⟨rfl, rfl⟩
  rw [TA.out]
  clear c3 own3
  have nd3 : ∀ i, i < 9 → ∃ c t, W4.heap[w'.heap.size + i]? = some (.cells c t (0, 0)) := fun i hi => by
    obtain ⟨c, t, h⟩ := ND.out i hi
    exact ⟨c, t, (b3.block _ (by omega)).trans ((b2.block _ (by omega)).trans h)⟩
  skip
  skip
  skip
  clear nd3
  go_wp2_with fail
  refine (NA.out _).mono ?_
  rintro e W5 ⟨rfl, rfl⟩
  go_wp2
  go_ret
  exact ⟨rfl, (b1.trans (b2.mono hs1)).trans (b3.mono (by omega))⟩

set_option maxHeartbeats 2000000 in
set_option maxRecDepth 100000 in
theorem own_n2 (a b c : ByteArray) (w : World) (ha : a.size ≤ 262144) (hb : b.size ≤ 262144) (hc : c.size ≤ 262144) (ia : Nat) (ea : mi a = ia) (iA : ia = 9) (hq : quickB b c = false) (hraw : c.toList.isEmpty = true) (hz : b.size ≤ 0) :
    Calls Try.prog 7 #[.string a, .string b, .string c] w fun e w' => e = .returned (.bool true) ∧ Below w.heap.size w w' := by
  have HB : Hid (∀ w, Calls Try.prog 21 #[.string a, .string b, .string c] w fun e w' => e = .returned (.bool true) ∧ w' = w) := fun w => bytes21_yes a b c w (by omega)
  have HQ : Hid (quickB b c = false) := hq
  have HS : Hid (quickB ⟨#[47]⟩ ⟨#[]⟩ = true) := slash_quick
  have HA : Hid (mi a = ia) := ea
  have HM : Hid (a.size ≤ maxLen) := show a.size ≤ maxLen by unfold maxLen; omega
  have NA : Hid (∀ w, Calls Try.prog 25 #[.string a] w fun e w' => e = .returned (.bool false) ∧ w' = w) := by
    have := nine_any a
    rw [ea] at this
    rw [decide_eq_false (show ¬ ia < 9 by omega)] at this
    exact this
  have TA : Hid (∀ B, tp B (mi a) = none) := fun B => by
    rw [ea]; unfold tp; rw [if_neg (by omega)]
  clear ea hq
  skip
  go_enter Try.func7, Try.ntmps7
  go_wp2_with fail
  refine (HB.out _).mono ?_
  rintro e w' ⟨rfl, rfl⟩
  go_wp2_with fail
  refine (router_any _).mono ?_
  rintro e W1 ⟨r, m, rfl, c0, ci, c9, hown, hr, b1, hz1, nd⟩
  have k1 : W1.cell? ⟨r, 1 + ia, none⟩ = some (.pointer none) := by rw [iA]; exact c9
  have ND : Hid (∀ i, i < 9 → ∃ c t, W1.heap[w'.heap.size + i]? = some (.cells c t (0, 0))) := nd
  clear ci c9 nd
  go_wp2_with fail
  refine (quick_any r ia _ a b c _ hr HA.out k1).mono ?_
  rintro e W2 ⟨rfl, b2⟩
  rw [HQ.out, if_neg (by decide)]
  have hs1 := b1.size
  have hs2 := b2.size
  have k2 := (b2.cell (p := ⟨r, 1 + ia, none⟩) hr).trans k1
  have c2 := (b2.cell (p := ⟨r, 0, none⟩) hr).trans c0
  have own2 := hown.kept (show W1.grownBy W2 Option.none from ⟨b2.os, b2.tape, b2.output, b2.size, fun i hi _ => b2.block i hi⟩) (by simp)
  clear k1 c0 hown
  have hr2 : r < W2.heap.size := by omega
  go_wp2_with fail
  refine (quick_any r ia _ a ⟨#[47]⟩ ⟨#[]⟩ _ hr2 HA.out k2).mono ?_
  rintro e W3 ⟨rfl, b3⟩
  rw [HS.out, if_pos rfl]
  have c3 := (b3.cell (p := ⟨r, 0, none⟩) hr2).trans c2
  have own3 := own2.kept (show W2.grownBy W3 Option.none from ⟨b3.os, b3.tape, b3.output, b3.size, fun i hi _ => b3.block i hi⟩) (by simp)
  clear k2 c2 own2
  go_wp2_with fail
  refine (tree_any r m _ a _ HM.out c3 own3).mono ?_
  rintro e W4 ⟨rfl, rfl⟩
  rw [TA.out]
  clear c3 own3
  have nd3 : ∀ i, i < 9 → ∃ c t, W4.heap[w'.heap.size + i]? = some (.cells c t (0, 0)) := fun i hi => by
    obtain ⟨c, t, h⟩ := ND.out i hi
    exact ⟨c, t, (b3.block _ (by omega)).trans ((b2.block _ (by omega)).trans h)⟩
  skip
  skip
  skip
  clear nd3
  go_wp2_with fail
  refine (NA.out _).mono ?_
  rintro e W5 ⟨rfl, rfl⟩
  go_wp2
  go_ret
  exact ⟨rfl, (b1.trans (b2.mono hs1)).trans (b3.mono (by omega))⟩

set_option maxHeartbeats 2000000 in
set_option maxRecDepth 100000 in
theorem own_n3 (a b c : ByteArray) (w : World) (ha : a.size ≤ 262144) (hb : b.size ≤ 262144) (hc : c.size ≤ 262144) (ia : Nat) (ea : mi a = ia) (iA : ia = 9) (hq : quickB b c = false) (hraw : c.toList.isEmpty = true) (hz : 0 < b.size) (h47 : ((b[0].toNat : Int) == 47) = false) :
    Calls Try.prog 7 #[.string a, .string b, .string c] w fun e w' => e = .returned (.bool true) ∧ Below w.heap.size w w' := by
  have HB : Hid (∀ w, Calls Try.prog 21 #[.string a, .string b, .string c] w fun e w' => e = .returned (.bool true) ∧ w' = w) := fun w => bytes21_yes a b c w (by omega)
  have HQ : Hid (quickB b c = false) := hq
  have HS : Hid (quickB ⟨#[47]⟩ ⟨#[]⟩ = true) := slash_quick
  have HA : Hid (mi a = ia) := ea
  have HM : Hid (a.size ≤ maxLen) := show a.size ≤ maxLen by unfold maxLen; omega
  have NA : Hid (∀ w, Calls Try.prog 25 #[.string a] w fun e w' => e = .returned (.bool false) ∧ w' = w) := by
    have := nine_any a
    rw [ea] at this
    rw [decide_eq_false (show ¬ ia < 9 by omega)] at this
    exact this
  have TA : Hid (∀ B, tp B (mi a) = none) := fun B => by
    rw [ea]; unfold tp; rw [if_neg (by omega)]
  clear ea hq
  obtain ⟨b0, e0⟩ : ∃ b0 : Nat, b[0].toNat = b0 := ⟨_, rfl⟩
  rw [e0] at h47
  go_enter Try.func7, Try.ntmps7
  go_wp2_with fail
  refine (HB.out _).mono ?_
  rintro e w' ⟨rfl, rfl⟩
  go_wp2_with fail
  refine (router_any _).mono ?_
  rintro e W1 ⟨r, m, rfl, c0, ci, c9, hown, hr, b1, hz1, nd⟩
  have k1 : W1.cell? ⟨r, 1 + ia, none⟩ = some (.pointer none) := by rw [iA]; exact c9
  have ND : Hid (∀ i, i < 9 → ∃ c t, W1.heap[w'.heap.size + i]? = some (.cells c t (0, 0))) := nd
  clear ci c9 nd
  go_wp2_with fail
  refine (quick_any r ia _ a b c _ hr HA.out k1).mono ?_
  rintro e W2 ⟨rfl, b2⟩
  rw [HQ.out, if_neg (by decide)]
  have hs1 := b1.size
  have hs2 := b2.size
  have k2 := (b2.cell (p := ⟨r, 1 + ia, none⟩) hr).trans k1
  have c2 := (b2.cell (p := ⟨r, 0, none⟩) hr).trans c0
  have own2 := hown.kept (show W1.grownBy W2 Option.none from ⟨b2.os, b2.tape, b2.output, b2.size, fun i hi _ => b2.block i hi⟩) (by simp)
  clear k1 c0 hown
  have hr2 : r < W2.heap.size := by omega
  go_wp2_with fail
  refine (quick_any r ia _ a ⟨#[47]⟩ ⟨#[]⟩ _ hr2 HA.out k2).mono ?_
  rintro e W3 ⟨rfl, b3⟩
  rw [HS.out, if_pos rfl]
  have c3 := (b3.cell (p := ⟨r, 0, none⟩) hr2).trans c2
  have own3 := own2.kept (show W2.grownBy W3 Option.none from ⟨b3.os, b3.tape, b3.output, b3.size, fun i hi _ => b3.block i hi⟩) (by simp)
  clear k2 c2 own2
  go_wp2_with fail
  refine (tree_any r m _ a _ HM.out c3 own3).mono ?_
  rintro e W4 ⟨rfl, rfl⟩
  rw [TA.out]
  clear c3 own3
  have nd3 : ∀ i, i < 9 → ∃ c t, W4.heap[w'.heap.size + i]? = some (.cells c t (0, 0)) := fun i hi => by
    obtain ⟨c, t, h⟩ := ND.out i hi
    exact ⟨c, t, (b3.block _ (by omega)).trans ((b2.block _ (by omega)).trans h)⟩
  skip
  skip
  skip
  clear nd3
  go_wp2_with fail
  refine (NA.out _).mono ?_
  rintro e W5 ⟨rfl, rfl⟩
  go_wp2
  go_ret
  exact ⟨rfl, (b1.trans (b2.mono hs1)).trans (b3.mono (by omega))⟩


theorem own_any (a b c : ByteArray) (w : World) (ha : a.size ≤ maxLen) (hb : b.size ≤ maxLen) (hc : c.size ≤ maxLen) :
    Calls Try.prog 7 #[.string a, .string b, .string c] w fun e w' => e = .returned (.bool true) ∧ Below w.heap.size w w' := by
  have same : (Calls Try.prog 7 #[.string a, .string b, .string c] w fun e w' => e = .returned (.bool true) ∧ w' = w) → Calls Try.prog 7 #[.string a, .string b, .string c] w fun e w' => e = .returned (.bool true) ∧ Below w.heap.size w w' := by
    intro h
    refine h.mono fun e w' ⟨he, hw⟩ => ?_
    subst hw
    exact ⟨he, Below.refl _ _⟩
  by_cases h1 : a.size + b.size + c.size ≤ 1048576
  · by_cases h2 : a.size ≤ 262144 ∧ b.size ≤ 262144 ∧ c.size ≤ 262144
    · obtain ⟨pa, pb, pc⟩ := h2
      have la := mi_le a
      by_cases iA : mi a < 9
      · rcases quick_tests b c with ⟨q, r, hz, h47⟩ | ⟨q, r | ⟨r, hz⟩ | ⟨r, hz, h47⟩⟩
        · exact own_yq a b c w pa pb pc _ rfl iA q r hz h47
        · exact own_y1 a b c w pa pb pc _ rfl iA q r
        · exact own_y2 a b c w pa pb pc _ rfl iA q r (by omega)
        · exact own_y3 a b c w pa pb pc _ rfl iA q r hz h47
      · rcases quick_tests b c with ⟨q, r, hz, h47⟩ | ⟨q, r | ⟨r, hz⟩ | ⟨r, hz, h47⟩⟩
        · exact own_nq a b c w pa pb pc _ rfl (by omega) q r hz h47
        · exact own_n1 a b c w pa pb pc _ rfl (by omega) q r
        · exact own_n2 a b c w pa pb pc _ rfl (by omega) q r (by omega)
        · exact own_n3 a b c w pa pb pc _ rfl (by omega) q r hz h47
    · exact same (own_mid a b c w h1 h2)
  · exact same (own_big a b c w ha hb hc (by omega))

end Qt
end Go.Proofs.Qxb6615050a
