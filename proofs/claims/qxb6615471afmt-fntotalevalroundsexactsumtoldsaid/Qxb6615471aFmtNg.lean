/-
  THE WALK of zzNegate.
-/
import Derived.Test.Qxb6615471aFmtHlp
import Derived.Test.Qxb6615471aFmtNgP
namespace Go.Proofs.Qxb6615471aFmt
open Go.RowKit
set_option linter.unusedVariables false
namespace Fl

structure L1 (zs : List Int) (n k : Nat) (zk : List Int) : Prop where
  len : zk.length = n + 1
  low : ∀ j, j < k → zk.getD j 0 = zs.getD j 0
  high : ∀ j, k ≤ j → zk.getD j 0 = 0

theorem l1_end {zs zk : List Int} {n : Nat} (hl : zs.length = n) (h : L1 zs n n zk) : zk = zs ++ [0] := by
  apply List.ext_getElem?
  intro j
  have hz := h.len
  by_cases hj : j < n
  · have := h.low j hj
    rw [List.getD_eq_getElem?_getD, List.getD_eq_getElem?_getD] at this
    rw [List.getElem?_append_left (by omega)]
    rw [List.getElem?_eq_getElem (by omega), List.getElem?_eq_getElem (by omega)] at this ⊢
    simpa using this
  · by_cases e : j = n
    · have := h.high n (Nat.le_refl _)
      rw [List.getD_eq_getElem?_getD, List.getElem?_eq_getElem (by omega)] at this
      rw [e, List.getElem?_append_right (by omega), List.getElem?_eq_getElem (by omega)]
      simpa [hl] using this
    · rw [List.getElem?_eq_none (by omega), List.getElem?_eq_none (by simp; omega)]

structure L2 (ext : List Int) (n k : Nat) (wk : List Int) : Prop where
  len : wk.length = n + 1
  low : ∀ j, j < k → wk.getD j 0 = ext.getD j 0 % 4294967296

structure L4 (wk : List Int) (n k : Nat) (out : List Int) : Prop where
  len : out.length = n + 1
  low : ∀ j, j < k → out.getD j 0 = wk.getD j 0

theorem rep_getD (m j : Nat) : (List.replicate m (0 : Int)).getD j 0 = 0 := by
  rw [List.getD_eq_getElem?_getD, List.getElem?_replicate]
  split <;> rfl

theorem xor_u32 (x : Nat) (h : x < 4294967296) : bits .xor .u32 4294967295 (x : Int) = ((4294967295 - x : Nat) : Int) := by
  have h1 := u32_xor_nat 4294967295 x (by decide) h
  have e : 4294967295 ^^^ x = 4294967295 - x := by
    have := BitVec.toNat_not (x := BitVec.ofNat 32 x)
    rw [BitVec.not_def, BitVec.toNat_xor, BitVec.toNat_ofNat, Nat.mod_eq_of_lt h] at this
    simpa using this
  rw [e] at h1
  exact h1

set_option maxHeartbeats 16000000 in
set_option maxRecDepth 100000 in
theorem ng_any (b off n c : Nat) (zs : List Int) (w : World) (hn1 : 1 ≤ n) (hn : n ≤ 131072) (hl : zs.length = n) (hb : b < w.heap.size) (hc : Cl w .i64 b off zs) (car : Carried zs) :
    Calls Tryf.prog 12 #[.slice (some ⟨b, off, none⟩) n c] w fun e w' => ∃ D out, e = .returned (.slice (some ⟨D, 0, none⟩) (n + 1 : Nat) (n + 1 : Nat)) ∧ w.heap.size ≤ D ∧ Row w' .i64 2 D (n + 1) out ∧ Carried out ∧ out.length = n + 1 ∧ val out = -val zs ∧ Kept w w' [] := by
  have hm1 : ∀ w, (Instr.makeSlice 22 (.int .i64 ((n : Int) + 1)) (.int .i64 ((n : Int) + 1))).run Tryf.prog w = .ok (.slice (some ⟨w.heap.size, 0, none⟩) (n + 1) (n + 1)) (w.alloc (.cells (madeCells #[Value.int .i64 0] (n + 1)) 2)) := fun w => make_run 22 2 .i64 8 Tryf.underlying22 Tryf.info2 (by decide) (n + 1) (by omega) w
  have hm2 : ∀ w, (Instr.makeSlice 39 (.int .i64 ((n : Int) + 1)) (.int .i64 ((n : Int) + 1))).run Tryf.prog w = .ok (.slice (some ⟨w.heap.size, 0, none⟩) (n + 1) (n + 1)) (w.alloc (.cells (madeCells #[Value.int .u32 0] (n + 1)) 62)) := fun w => make_run 39 62 .u32 4 Tryf.underlying39 Tryf.info62 (by decide) (n + 1) (by omega) w
  have HC := hide hc
  have HCA := hide car
  have hn0 : ((n : Int) == 0) = false := by simp; omega
  clear hc car
  obtain ⟨w0, hw0⟩ : ∃ w0, w0 = w.alloc (.cells (madeCells #[Value.int .i64 0] (n + 1)) 2) := ⟨_, rfl⟩
  have k0 : Kept w w0 [] := by rw [hw0]; exact (Kept.refl _ _).alloc _
  have r0 : Row w0 .i64 2 w.heap.size (n + 1) (List.replicate (n + 1) 0) := by rw [hw0]; exact Row.made w .i64 2 (n + 1)
  have HW := hide hw0
  clear hw0
  go_enter Tryf.func12, Tryf.ntmps12
  go_upto_block 0 with fail
  rw [← HW.out]
  clear HW
  obtain ⟨E1, hE1⟩ : ∃ E1, E1 = w.heap.size := ⟨_, rfl⟩
  rw [← hE1] at r0 ⊢
  have HE1 : Hid (w.heap.size ≤ E1) := by show w.heap.size ≤ E1; omega
  clear hE1
  go_cut [5] (fun s5 wx => Row wx .i64 2 E1 (n + 1) (zs ++ [0]) ∧ Kept w wx [])
  case first =>
    clear hm1 hm2
    go_wp2_with fail
    go_loopw [5] (fun s5 wr => ∃ (k : Nat) (zk : List Int), s5 = .int .i64 k ∧ k ≤ n ∧ Row wr .i64 2 E1 (n + 1) zk ∧ Kept w wr [] ∧ L1 zs n k zk) (fun s5 _ => n - (intOf s5).toNat)
    case atStart => exact ⟨0, _, rfl, Nat.zero_le _, r0, k0, ⟨by simp, fun j hj => absurd hj (Nat.not_lt_zero _), fun j _ => rep_getD _ _⟩⟩
    case round =>
      obtain ⟨k, zk, rfl, hk, rk, kk, lk⟩ := hrel
      clear r0 k0
      by_cases hlt : (k : Int) < n
      · have ck := (kk.cell (p := ⟨b, off + k, none⟩) hb (by simp)).trans (HC.out k (by omega))
        have cE := rk.cell k (by rw [lk.len]; omega)
        have fE := rk.frozen k
        have hk0 : (0 : Int) ≤ k := by omega
        have hlt2 : (k : Int) < (n : Int) + 1 := by omega
        obtain ⟨d, hd⟩ : ∃ d, d = zs.getD k 0 := ⟨_, rfl⟩
        rw [← hd] at ck
        generalize zk.getD k 0 = old at *
        have hkl := lk.len
        have r' := rk.set k (by omega) d
        have k' := kk.setCell (p := ⟨E1, k, none⟩) (Or.inr HE1.out) (.int .i64 d)
        have l' : L1 zs n (k + 1) (zk.set k d) := by
          refine ⟨by simpa using hkl, fun j hj => ?_, fun j hj => ?_⟩
          · by_cases e : j = k
            · rw [e, getD_set_eq _ _ _ (by omega), hd]
            · rw [getD_set_ne _ _ _ _ (by omega)]
              exact lk.low j (by omega)
          · rw [getD_set_ne _ _ _ _ (by omega)]
            exact lk.high j (by omega)
        clear rk kk lk hd
        go_wp2
        go_roundw
        case rel => exact ⟨k + 1, _, by go_num, by omega, r', k', l'⟩
        case measure => simp [intOf]; omega
      · have ek : k = n := by omega
        have e := l1_end hl (ek ▸ lk)
        subst e
        go_wp2
        go_meet
        exact ⟨rk, kk⟩
  case rest =>
  obtain ⟨r1, k1⟩ := hcut
  clear r0 k0
  obtain ⟨m, hm⟩ : ∃ m, n = m + 1 := ⟨n - 1, by omega⟩
  have cl := (k1.cell (p := ⟨b, off + m, none⟩) hb (by simp)).trans (HC.out m (by omega))
  obtain ⟨y, hy⟩ : ∃ y, y = zs.getD m 0 := ⟨_, rfl⟩
  rw [← hy] at cl
  have hcov : Hid (cov zs = if y < 0 then zs.set m (y + 4294967296) ++ [-1] else zs ++ [0]) := by
    show cov zs = _
    unfold cov
    rw [hl, hm, show m + 1 - 1 = m from rfl, ← hy]
  have hyb := HCA.out.last
  rw [hl, hm, show m + 1 - 1 = m from rfl, ← hy] at hyb
  have HY := hide hy
  have hnm : (n : Int) - 1 = (m : Int) := by omega
  have hmn : (m : Int) < n := by omega
  have hmn1 : (m : Int) < (n : Int) + 1 := by omega
  have hm0 : (0 : Int) ≤ m := by omega
  have HM := hide hm
  clear hy hm
  have cE := r1.cell m (by simp; omega)
  have fE := r1.frozen m
  have cE2 := r1.cell n (by simp; omega)
  have fE2 := r1.frozen n
  generalize (zs ++ [0]).getD m 0 = o1 at *
  generalize (zs ++ [0]).getD n 0 = o2 at *
  go_upto_if 38 with fail
  go_cut [] (fun wx => Row wx .i64 2 E1 (n + 1) (cov zs) ∧ Kept w wx [])
  case first =>
    clear hm1 hm2
    by_cases y0 : y < 0
    · have r2 := (r1.set m (by simp; omega) (y + 4294967296)).set n (by simp; omega) (-1)
      have e : ((zs ++ [0]).set m (y + 4294967296)).set n (-1) = cov zs := by
        rw [hcov.out, if_pos y0, List.set_append_left _ _ (by omega), List.set_append_right _ _ (by simp; omega)]
        simp [hl]
      rw [e] at r2
      have k2 := (k1.setCell (p := ⟨E1, m, none⟩) (Or.inr HE1.out) (.int .i64 (y + 4294967296))).setCell (p := ⟨E1, n, none⟩) (Or.inr HE1.out) (.int .i64 (-1))
      have hn00 : (0 : Int) ≤ n := by omega
      have hnn1 : (n : Int) < (n : Int) + 1 := by omega
      clear r1 k1 e
      go_wp2
      go_meet
      exact ⟨r2, k2⟩
    · have e : cov zs = zs ++ [0] := by rw [hcov.out, if_neg y0]
      clear cE fE cE2 fE2
      go_wp2
      go_meet
      exact ⟨by rw [e]; exact r1, k1⟩
  case rest =>
  obtain ⟨r2, k2⟩ := hcut
  clear r1 k1 cl cE fE cE2 fE2 hcov hyb HY hnm hmn hmn1 hm0 HM
  obtain ⟨ext, hext⟩ : ∃ ext, ext = cov zs := ⟨_, rfl⟩
  rw [← hext] at r2
  have hel : ext.length = n + 1 := by
    rw [hext]
    unfold cov
    split <;> simp [hl]
  have HEX := hide hext
  clear hext
  obtain ⟨w3, hw3⟩ : ∃ w3, w3 = wc.alloc (.cells (madeCells #[Value.int .u32 0] (n + 1)) 62) := ⟨_, rfl⟩
  have k3 : Kept w w3 [] := by rw [hw3]; exact k2.alloc _
  have r3 : Row w3 .u32 62 wc.heap.size (n + 1) (List.replicate (n + 1) 0) := by rw [hw3]; exact Row.made wc .u32 62 (n + 1)
  have re3 : Row w3 .i64 2 E1 (n + 1) ext := by rw [hw3]; exact r2.alloc _
  have hE12 : E1 < wc.heap.size := r2.lt
  have HW3 := hide hw3
  have hks := k2.size
  clear hw3 r2 k2
  go_upto_block 2 with fail
  rw [← HW3.out]
  clear HW3 hm2
  obtain ⟨E2, hE2⟩ : ∃ E2, E2 = wc.heap.size := ⟨_, rfl⟩
  rw [← hE2] at r3 hE12 ⊢
  have HE2 : Hid (w.heap.size ≤ E2 ∧ E1 ≠ E2) := ⟨by omega, by omega⟩
  clear hE2 hE12 hks
  go_cut [7] (fun s7 wx => ∃ ws, Row wx .i64 2 E1 (n + 1) ext ∧ Row wx .u32 62 E2 (n + 1) ws ∧ Kept w wx [] ∧ L2 ext n (n + 1) ws)
  case first =>
    clear hm1
    go_wp2_with fail
    go_loopw [7] (fun s7 wr => ∃ (k : Nat) (wk : List Int), s7 = .int .i64 k ∧ k ≤ n + 1 ∧ Row wr .i64 2 E1 (n + 1) ext ∧ Row wr .u32 62 E2 (n + 1) wk ∧ Kept w wr [] ∧ L2 ext n k wk) (fun s7 _ => n + 1 - (intOf s7).toNat)
    case atStart => exact ⟨0, _, rfl, Nat.zero_le _, re3, r3, k3, ⟨by simp, fun j hj => absurd hj (Nat.not_lt_zero _)⟩⟩
    case round =>
      obtain ⟨k, wk, rfl, hk, rE, rk, kk, lk⟩ := hrel
      clear re3 r3 k3
      by_cases hlt : (k : Int) ≤ n
      · have ck := rE.cell k (by omega)
        have cE := rk.cell k (by rw [lk.len]; omega)
        have fE := rk.frozen k
        have hk0 : (0 : Int) ≤ k := by omega
        have hlt2 : (k : Int) < (n : Int) + 1 := by omega
        have hkl := lk.len
        obtain ⟨d, hd⟩ : ∃ d, d = ext.getD k 0 := ⟨_, rfl⟩
        rw [← hd] at ck
        obtain ⟨d', hd'⟩ : ∃ d', d' = d % 4294967296 := ⟨_, rfl⟩
        have hwr : IntKind.u32.wrap d = d' := by rw [hd']; simp [IntKind.wrap, IntKind.bits, IntKind.signed]
        generalize wk.getD k 0 = old at *
        have r' := rk.set k (by omega) d'
        have rE' := rE.setOther (p := ⟨E2, k, none⟩) (fun e => HE2.out.2 e.symm) (.int .u32 d')
        have k' := kk.setCell (p := ⟨E2, k, none⟩) (Or.inr HE2.out.1) (.int .u32 d')
        have l' : L2 ext n (k + 1) (wk.set k d') := by
          refine ⟨by simpa using hkl, fun j hj => ?_⟩
          by_cases e : j = k
          · rw [e, getD_set_eq _ _ _ (by omega), hd', hd]
          · rw [getD_set_ne _ _ _ _ (by omega)]
            exact lk.low j (by omega)
        clear rk kk lk hd hd' rE
        go_wp2
        go_roundw
        case rel => exact ⟨k + 1, _, by go_num, by omega, rE', r', k', l'⟩
        case measure => simp [intOf]; omega
      · have ek : k = n + 1 := by omega
        subst ek
        go_wp2
        go_meet
        exact ⟨wk, rE, rk, kk, lk⟩
  case rest =>
  obtain ⟨ws, re4, r4, k4, l4⟩ := hcut
  clear re3 r3 k3
  have hwsl := l4.len
  have HWB : Hid (∀ j, j < n + 1 → 0 ≤ ws.getD j 0 ∧ ws.getD j 0 < 4294967296) := by
    intro j hj
    have := l4.low j hj
    omega
  have HL4 := hide l4
  clear l4 re4
  go_upto_block 4 with fail
  go_cut [8, 9, 10] (fun s8 s9 s10 wx => ∃ c' wk, Row wx .u32 62 E2 (n + 1) wk ∧ Kept w wx [] ∧ TC ws n (n + 1) c' wk)
  case first =>
    clear hm1
    go_wp2_with fail
    go_loopw [8, 9, 10] (fun s8 s9 s10 wr => ∃ (k : Nat) (c' : Int) (wk : List Int), s9 = .int .i64 k ∧ k ≤ n + 1 ∧ s8 = .int .u64 c' ∧ Row wr .u32 62 E2 (n + 1) wk ∧ Kept w wr [] ∧ TC ws n k c' wk) (fun _ s9 _ _ => n + 1 - (intOf s9).toNat)
    case atStart => exact ⟨0, 1, ws, rfl, Nat.zero_le _, rfl, r4, k4, tc_start ws n hwsl⟩
    case round =>
      obtain ⟨k, c', wk, rfl, hk, rfl, rk, kk, tk⟩ := hrel
      clear r4 k4
      by_cases hlt : (k : Int) ≤ n
      · have hkl := tk.len
        have cE := rk.cell k (by omega)
        have fE := rk.frozen k
        have hk0 : (0 : Int) ≤ k := by omega
        have hlt2 : (k : Int) < (n : Int) + 1 := by omega
        rw [tk.high k (Nat.le_refl _)] at cE
        have wb := HWB.out k (by omega)
        obtain ⟨x, hx⟩ := Int.eq_ofNat_of_zero_le wb.1
        rw [hx] at cE wb
        have hxl : x < 4294967296 := by omega
        have hxo : bits .xor .u32 (if IntKind.u32.signed = true then -1 else IntKind.u32.max) (x : Int) = ((4294967295 - x : Nat) : Int) := by
          have e : (if IntKind.u32.signed = true then (-1 : Int) else IntKind.u32.max) = 4294967295 := by decide
          rw [e]
          exact xor_u32 x hxl
        obtain ⟨x', hx'⟩ : ∃ x' : Nat, x' = 4294967295 - x := ⟨_, rfl⟩
        rw [← hx'] at hxo
        have hx'l : x' < 4294967296 := by omega
        have hc := tk.c01
        obtain ⟨s, hs⟩ : ∃ s : Int, s = (x' : Int) + c' := ⟨_, rfl⟩
        have hsb : 0 ≤ s ∧ s < 18446744073709551616 := by omega
        have hws : IntKind.u64.wrap ((x' : Int) + c') = s := by
          rw [← hs]
          simp [IntKind.wrap, IntKind.bits, IntKind.signed]
          omega
        obtain ⟨s1, hs1⟩ : ∃ s1 : Int, s1 = s % 4294967296 := ⟨_, rfl⟩
        obtain ⟨s2, hs2⟩ : ∃ s2 : Int, s2 = s / 4294967296 := ⟨_, rfl⟩
        have hw1 : IntKind.u32.wrap s = s1 := by rw [hs1]; simp [IntKind.wrap, IntKind.bits, IntKind.signed]
        have hw2 : s / 4294967296 = s2 := hs2.symm
        have hw3 : s % 4294967296 = s1 := hs1.symm
        have hs2b : 0 ≤ s2 ∧ s2 < 4294967296 := by omega
        have t' := tc_step tk hwsl (by omega) (by rw [hx]; omega)
        have e1 : 4294967295 - ws.getD k 0 + c' = s := by rw [hx, hs]; omega
        rw [e1, ← hs1, ← hs2] at t'
        have r' := rk.set k (by omega) s1
        have k' := kk.setCell (p := ⟨E2, k, none⟩) (Or.inr HE2.out.1) (.int .u32 s1)
        have HS := hide (And.intro hs (And.intro hs1 hs2))
        clear rk kk tk hx hx' hs hs1 hs2 e1 hc
        go_wp2
        go_roundw
        case rel => exact ⟨k + 1, s2, _, by go_num, by omega, rfl, r', k', t'⟩
        case measure => simp [intOf]; omega
      · have ek : k = n + 1 := by omega
        subst ek
        go_wp2
        go_meet
        exact ⟨c', wk, rk, kk, tk⟩
  case rest =>
  obtain ⟨c', wk, r5, k5, tc⟩ := hcut
  clear r4 k4
  have hwkl := tc.len
  have HTB : Hid (∀ j, j < n + 1 → 0 ≤ wk.getD j 0 ∧ wk.getD j 0 < 4294967296) := tc.low
  have HTC := hide tc
  clear tc
  obtain ⟨w6, hw6⟩ : ∃ w6, w6 = wc.alloc (.cells (madeCells #[Value.int .i64 0] (n + 1)) 2) := ⟨_, rfl⟩
  have k6 : Kept w w6 [] := by rw [hw6]; exact k5.alloc _
  have r6 : Row w6 .i64 2 wc.heap.size (n + 1) (List.replicate (n + 1) 0) := by rw [hw6]; exact Row.made wc .i64 2 (n + 1)
  have re6 : Row w6 .u32 62 E2 (n + 1) wk := by rw [hw6]; exact r5.alloc _
  have hE23 : E2 < wc.heap.size := r5.lt
  have hks := k5.size
  have HW6 := hide hw6
  clear hw6 r5 k5
  go_upto_block 6 with fail
  rw [← HW6.out]
  clear HW6 hm1
  obtain ⟨E3, hE3⟩ : ∃ E3, E3 = wc.heap.size := ⟨_, rfl⟩
  rw [← hE3] at r6 hE23 ⊢
  have HE3 : Hid (w.heap.size ≤ E3 ∧ E2 ≠ E3) := ⟨by omega, by omega⟩
  clear hE3 hE23 hks
  go_cut [12] (fun s12 wx => ∃ out, Row wx .u32 62 E2 (n + 1) wk ∧ Row wx .i64 2 E3 (n + 1) out ∧ Kept w wx [] ∧ L4 wk n n out)
  case first =>
    go_wp2_with fail
    go_loopw [12] (fun s12 wr => ∃ (k : Nat) (out : List Int), s12 = .int .i64 k ∧ k ≤ n ∧ Row wr .u32 62 E2 (n + 1) wk ∧ Row wr .i64 2 E3 (n + 1) out ∧ Kept w wr [] ∧ L4 wk n k out) (fun s12 _ => n - (intOf s12).toNat)
    case atStart => exact ⟨0, _, rfl, Nat.zero_le _, re6, r6, k6, ⟨by simp, fun j hj => absurd hj (Nat.not_lt_zero _)⟩⟩
    case round =>
      obtain ⟨k, out, rfl, hk, rE, rk, kk, lk⟩ := hrel
      clear re6 r6 k6
      by_cases hlt : (k : Int) < n
      · have ck := rE.cell k (by omega)
        have cE := rk.cell k (by rw [lk.len]; omega)
        have fE := rk.frozen k
        have hk0 : (0 : Int) ≤ k := by omega
        have hlt2 : (k : Int) < (n : Int) + 1 := by omega
        have hkl := lk.len
        obtain ⟨d, hd⟩ : ∃ d, d = wk.getD k 0 := ⟨_, rfl⟩
        have db := HTB.out k (by omega)
        rw [← hd] at ck db
        generalize out.getD k 0 = old at *
        have r' := rk.set k (by omega) d
        have rE' := rE.setOther (p := ⟨E3, k, none⟩) (fun e => HE3.out.2 e.symm) (.int .i64 d)
        have k' := kk.setCell (p := ⟨E3, k, none⟩) (Or.inr HE3.out.1) (.int .i64 d)
        have l' : L4 wk n (k + 1) (out.set k d) := by
          refine ⟨by simpa using hkl, fun j hj => ?_⟩
          by_cases e : j = k
          · rw [e, getD_set_eq _ _ _ (by omega), hd]
          · rw [getD_set_ne _ _ _ _ (by omega)]
            exact lk.low j (by omega)
        clear rk kk lk hd rE
        go_wp2
        go_roundw
        case rel => exact ⟨k + 1, _, by go_num, by omega, rE', r', k', l'⟩
        case measure => simp [intOf]; omega
      · have ek : k = n := by omega
        subst ek
        go_wp2
        go_meet
        exact ⟨out, rE, rk, kk, lk⟩
  case rest =>
  obtain ⟨out, rE, rk, kk, lk⟩ := hcut
  clear re6 r6 k6
  have hol := lk.len
  have ck := rE.cell n (by omega)
  have cE := rk.cell n (by omega)
  have fE := rk.frozen n
  have hn00 : (0 : Int) ≤ n := by omega
  have hnn1 : (n : Int) < (n : Int) + 1 := by omega
  obtain ⟨d, hd⟩ : ∃ d, d = wk.getD n 0 := ⟨_, rfl⟩
  have db := HTB.out n (by omega)
  rw [← hd] at ck db
  generalize out.getD n 0 = old at *
  obtain ⟨d', hd'⟩ : ∃ d', d' = if d < 2147483648 then d else d - 4294967296 := ⟨_, rfl⟩
  have hw32 : IntKind.i32.wrap d = d' := by
    rw [hd']
    simp [IntKind.wrap, IntKind.bits, IntKind.signed]
    split <;> omega
  have hd'b : -2147483648 ≤ d' ∧ d' < 2147483648 := by
    rw [hd']
    split <;> omega
  have r' := rk.set n (by omega) d'
  have k' := kk.setCell (p := ⟨E3, n, none⟩) (Or.inr HE3.out.1) (.int .i64 d')
  have fin := opp_val zs ext ws wk (out.set n d') n c' hn1 hl HCA.out HEX.out hwsl HL4.out.low HTC.out (by simpa using hol)
    (fun j hj => by rw [getD_set_ne _ _ _ _ (by omega)]; exact lk.low j hj) (by rw [getD_set_eq _ _ _ (by omega), hd', hd])
  have hol' : (out.set n d').length = n + 1 := by simpa using hol
  have FIN := hide (And.intro fin (And.intro hol' HE3.out.1))
  clear rk kk lk hd hd' rE fin hol'
  go_wp2
  go_ret
  exact ⟨E3, _, rfl, FIN.out.2.2, r', FIN.out.1.1, FIN.out.2.1, FIN.out.1.2, k'⟩

theorem ng_empty (a : Option Addr) (c : Nat) (w : World) : Calls Tryf.prog 12 #[.slice a 0 c] w fun e w' => (∃ a' c', e = .returned (.slice a' 0 c')) ∧ Kept w w' [] := by
  go_enter Tryf.func12, Tryf.ntmps12
  go_wp2
  go_ret
  exact ⟨⟨_, _, rfl⟩, (Kept.refl _ _).alloc _⟩

end Fl
end Go.Proofs.Qxb6615471aFmt
