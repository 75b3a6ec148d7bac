/-
  THE WALK of zzMagnitude.
-/
import Derived.Test.Qxb6615471aFmtNg
namespace Go.Proofs.Qxb6615471aFmt
open Go.RowKit
set_option linter.unusedVariables false
set_option linter.unusedSimpArgs false
namespace Fl

/-- the words of the digits -/
structure WK (zs : List Int) (n k : Nat) (wk : List Int) : Prop where
  len : wk.length = n
  low : ∀ j, j < k → wk.getD j 0 = zs.getD j 0 % 4294967296

/-- the words stand for the digits' sum, or for it and one more turn -/
theorem wk_val (zs ws : List Int) (m : Nat) (hl : zs.length = m + 1) (car : Carried zs) (h : WK zs (m + 1) (m + 1) ws) :
    (0 ≤ zs.getD m 0 → val ws = val zs) ∧ (zs.getD m 0 < 0 → val ws = val zs + 4294967296 ^ (m + 1)) := by
  have hws := h.len
  have e1 := val_take_succ ws m (by omega)
  have e2 := val_take_succ zs m (by omega)
  rw [show m + 1 = ws.length from hws.symm, List.take_length] at e1
  rw [show m + 1 = zs.length from hl.symm, List.take_length] at e2
  have e3 : ws.take m = zs.take m := by
    apply List.ext_getElem?
    intro j
    by_cases hj : j < m
    · have h1 := h.low j (by omega)
      have h2 := car.low j (by omega)
      rw [Int.emod_eq_of_lt h2.1 h2.2] at h1
      rw [List.getD_eq_getElem?_getD, List.getD_eq_getElem?_getD] at h1
      rw [List.getElem?_take, List.getElem?_take, if_pos hj, if_pos hj]
      rw [List.getElem?_eq_getElem (by omega), List.getElem?_eq_getElem (by omega)] at h1 ⊢
      simpa using h1
    · rw [List.getElem?_take, List.getElem?_take, if_neg hj, if_neg hj]
  have h1 := h.low m (by omega)
  have la := car.last
  rw [hl, show m + 1 - 1 = m from rfl] at la
  constructor
  · intro h0
    rw [Int.emod_eq_of_lt h0 (by omega)] at h1
    rw [e1, e2, e3, h1]
  · intro h0
    have e4 : zs.getD m 0 % 4294967296 = zs.getD m 0 + 4294967296 := by omega
    rw [e4] at h1
    rw [e1, e2, e3, h1, Int.mul_add, Int.pow_succ]
    omega

/-- the magnitude's words -/
structure MagW (zs : List Int) (n : Nat) (mk : List Int) : Prop where
  len : mk.length = n
  dig : ∀ i, i < mk.length → 0 ≤ mk.getD i 0 ∧ mk.getD i 0 < 4294967296
  v : val mk = ((val zs).natAbs : Int)

theorem mag_pos (zs ws : List Int) (m : Nat) (hl : zs.length = m + 1) (car : Carried zs) (h : WK zs (m + 1) (m + 1) ws) (h0 : 0 ≤ zs.getD m 0) : MagW zs (m + 1) ws := by
  have hne : zs ≠ [] := by intro e; rw [e] at hl; simp at hl
  have hv := (wk_val zs ws m hl car h).1 h0
  have sg := (car.sign hne).2 (by rw [hl, show m + 1 - 1 = m from rfl]; exact h0)
  have hw := h.len
  refine ⟨hw, fun i hi => ?_, by rw [hv]; omega⟩
  have := h.low i (by omega)
  omega

theorem mag_neg (zs ws mk : List Int) (m : Nat) (c : Int) (hl : zs.length = m + 1) (car : Carried zs) (h : WK zs (m + 1) (m + 1) ws) (h0 : zs.getD m 0 < 0) (tc : TC ws m (m + 1) c mk) : MagW zs (m + 1) mk := by
  have hne : zs ≠ [] := by intro e; rw [e] at hl; simp at hl
  have hv := (wk_val zs ws m hl car h).2 h0
  have hlt := car.neg hne (by rw [hl, show m + 1 - 1 = m from rfl]; exact h0)
  have hml := tc.len
  have hwl := h.len
  have hb := car.bounds hne
  rw [hl] at hb
  have s := tc.sum
  rw [show mk.take (m + 1) = mk by rw [← hml, List.take_length], show ws.take (m + 1) = ws by rw [← hwl, List.take_length], hv] at s
  have dg : ∀ i, i < mk.length → 0 ≤ mk.getD i 0 ∧ mk.getD i 0 < 4294967296 := fun i hi => tc.low i (by omega)
  have bm := val_bounds mk dg
  rw [hml] at bm
  refine ⟨hml, dg, ?_⟩
  generalize (4294967296 : Int) ^ (m + 1) = P at *
  rcases tc.c01 with rfl | rfl
  · omega
  · omega

/-- what zzMagnitude hands back -/
def MagOut (w : World) (zs : List Int) (n : Nat) (e : Ending) (w' : World) : Prop :=
  ∃ E mk, e = .returned (.tuple #[.slice (some ⟨E, 0, none⟩) n n, .bool (decide (val zs < 0))]) ∧ w.heap.size ≤ E ∧ Row w' .u32 62 E n mk ∧ MagW zs n mk ∧ Kept w w' []

set_option maxHeartbeats 16000000 in
set_option maxRecDepth 100000 in
theorem mgn_any (D m : Nat) (zs : List Int) (w : World) (hn : m + 1 ≤ 131072) (hl : zs.length = m + 1) (hD : Row w .i64 2 D (m + 1) zs) (car : Carried zs) :
    Calls Tryf.prog 14 #[.slice (some ⟨D, 0, none⟩) (m + 1 : Nat) (m + 1 : Nat)] w (MagOut w zs (m + 1)) := by
  obtain ⟨n, hnm⟩ : ∃ n, n = m + 1 := ⟨_, rfl⟩
  have hne : zs ≠ [] := by intro e; rw [e] at hl; simp at hl
  have sgn1 := car.sign hne
  rw [hl, show m + 1 - 1 = m from rfl] at sgn1
  have cm := hD.cell m (by omega)
  obtain ⟨y, hy⟩ : ∃ y, y = zs.getD m 0 := ⟨_, rfl⟩
  have hneg : Hid (decide (val zs < 0) = decide (y < 0)) := by
    show decide (val zs < 0) = decide (y < 0)
    rw [hy]
    by_cases h : 0 ≤ zs.getD m 0
    · have := sgn1.2 h
      rw [decide_eq_false (by omega), decide_eq_false (by omega)]
    · have : ¬ 0 ≤ val zs := fun e => h (sgn1.1 e)
      rw [decide_eq_true (by omega), decide_eq_true (by omega)]
  have HP := hide (mag_pos zs · m hl car)
  have HN := hide (fun (ws mk : List Int) (c : Int) => mag_neg zs ws mk m c hl car)
  rw [← hy] at cm
  have HY := hide hy
  rw [← hnm] at hn hl hD HP HN ⊢
  have hk1 : (n : Int) - 1 = (m : Int) := by omega
  have hk2 : (m : Int) < n := by omega
  have hk3 : (0 : Int) ≤ m := by omega
  have hk4 : (0 : Int) < n := by omega
  have HNM := hide hnm
  clear sgn1 hy hnm hne
  have hm2 : ∀ w, (Instr.makeSlice 39 (.int .i64 (n : Int)) (.int .i64 (n : Int))).run Tryf.prog w = .ok (.slice (some ⟨w.heap.size, 0, none⟩) n n) (w.alloc (.cells (madeCells #[Value.int .u32 0] n) 62)) := fun w => make_run 39 62 .u32 4 Tryf.underlying39 Tryf.info62 (by decide) n (by omega) w
  obtain ⟨w0, hw0⟩ : ∃ w0, w0 = w.alloc (.cells (madeCells #[Value.int .u32 0] n) 62) := ⟨_, rfl⟩
  have k0 : Kept w w0 [] := by rw [hw0]; exact (Kept.refl _ _).alloc _
  have r0 : Row w0 .u32 62 w.heap.size n (List.replicate n 0) := by rw [hw0]; exact Row.made w .u32 62 n
  have HW := hide hw0
  have hDlt := hD.lt
  clear hw0
  go_enter Tryf.func14, Tryf.ntmps14
  go_upto_block 0 with fail
  rw [← HW.out]
  clear HW hm2
  obtain ⟨E1, hE1⟩ : ∃ E1, E1 = w.heap.size := ⟨_, rfl⟩
  rw [← hE1] at r0 ⊢
  have HE1 : Hid (w.heap.size ≤ E1 ∧ D < w.heap.size) := ⟨by omega, hDlt⟩
  clear hE1 hDlt
  go_cut [6] (fun s6 wx => ∃ ws, Row wx .u32 62 E1 n ws ∧ Kept w wx [] ∧ WK zs n n ws)
  case first =>
    clear HP HN
    go_wp2_with fail
    go_loopw [6] (fun s6 wr => ∃ (k : Nat) (wk : List Int), s6 = .int .i64 k ∧ k ≤ n ∧ Row wr .u32 62 E1 n wk ∧ Kept w wr [] ∧ WK zs n k wk) (fun s6 _ => n - (intOf s6).toNat)
    case atStart => exact ⟨0, _, rfl, Nat.zero_le _, r0, k0, ⟨by simp, fun j hj => absurd hj (Nat.not_lt_zero _)⟩⟩
    case round =>
      obtain ⟨k, wk, rfl, hk, rk, kk, lk⟩ := hrel
      clear r0 k0
      by_cases hlt : (k : Int) < n
      · have ck := (kk.cell (p := ⟨D, k, none⟩) HE1.out.2 (by simp)).trans (hD.cell k (by omega))
        have hkl := lk.len
        have cE := rk.cell k (by omega)
        have fE := rk.frozen k
        have hk0 : (0 : Int) ≤ k := by omega
        obtain ⟨d, hd⟩ : ∃ d, d = zs.getD k 0 := ⟨_, rfl⟩
        rw [← hd] at ck
        obtain ⟨d', hd'⟩ : ∃ d', d' = d % 4294967296 := ⟨_, rfl⟩
        have hwr : IntKind.u32.wrap d = d' := by rw [hd']; simp [IntKind.wrap, IntKind.bits, IntKind.signed]
        generalize wk.getD k 0 = old at *
        have r' := rk.set k (by omega) d'
        have k' := kk.setCell (p := ⟨E1, k, none⟩) (Or.inr HE1.out.1) (.int .u32 d')
        have l' : WK zs n (k + 1) (wk.set k d') := by
          refine ⟨by simpa using hkl, fun j hj => ?_⟩
          by_cases e : j = k
          · rw [e, getD_set_eq _ _ _ (by omega), hd', hd]
          · rw [getD_set_ne _ _ _ _ (by omega)]
            exact lk.low j (by omega)
        clear rk kk lk hd hd'
        go_wp2
        go_roundw
        case rel => exact ⟨k + 1, _, by go_num, by omega, r', k', l'⟩
        case measure => simp [intOf]; omega
      · have ek : k = n := by omega
        go_wp2
        go_meet
        exact ⟨wk, rk, kk, ek ▸ lk⟩
  case rest =>
  obtain ⟨ws, r1, k1, l1⟩ := hcut
  clear r0 k0
  have cm1 := (k1.cell (p := ⟨D, m, none⟩) HE1.out.2 (by simp)).trans cm
  clear cm
  have HWB : Hid (∀ j, j < n → 0 ≤ ws.getD j 0 ∧ ws.getD j 0 < 4294967296) := by
    intro j hj
    have := l1.low j hj
    omega
  have hwsl := l1.len
  have hwsl2 : Hid (ws.length = m + 1) := by show ws.length = m + 1; rw [hwsl]; exact HNM.out
  have HL1 := hide l1
  clear l1
  by_cases y0 : y < 0
  · have hd0 : decide (y < 0) = true := decide_eq_true y0
    go_upto_block 2 with fail
    go_cut [8, 9, 10] (fun s8 s9 s10 wx => ∃ c' wk, Row wx .u32 62 E1 n wk ∧ Kept w wx [] ∧ TC ws m (m + 1) c' wk)
    case first =>
      clear HP HN
      go_wp2_with fail
      go_loopw [8, 9, 10] (fun s8 s9 s10 wr => ∃ (k : Nat) (c' : Int) (wk : List Int), s9 = .int .i64 k ∧ k ≤ n ∧ s8 = .int .u64 c' ∧ Row wr .u32 62 E1 n wk ∧ Kept w wr [] ∧ TC ws m k c' wk) (fun _ s9 _ _ => n - (intOf s9).toNat)
      case atStart => exact ⟨0, 1, ws, rfl, Nat.zero_le _, rfl, r1, k1, tc_start ws m hwsl2.out⟩
      case round =>
        obtain ⟨k, c', wk, rfl, hk, rfl, rk, kk, tk⟩ := hrel
        clear r1 k1 cm1
        by_cases hlt : (k : Int) < n
        · have hkl := tk.len
          have hkm : k < m + 1 := by have := HNM.out; omega
          have cE := rk.cell k (by omega)
          have fE := rk.frozen k
          have hk0 : (0 : Int) ≤ k := by omega
          rw [tk.high k (Nat.le_refl _)] at cE
          have wb := HWB.out k (by omega)
          obtain ⟨x, hx⟩ := Int.eq_ofNat_of_zero_le wb.1
          rw [hx] at cE wb
          have hxl : x < 4294967296 := by omega
          have hxo : bits .xor .u32 (if IntKind.u32.signed = true then -1 else IntKind.u32.max) (x : Int) = ((4294967295 - x : Nat) : Int) := by
            have e : (if IntKind.u32.signed = true then (-1 : Int) else IntKind.u32.max) = 4294967295 := by decide
            rw [e]
            exact xor_u32 x hxl
          obtain ⟨x', hx'⟩ : ∃ x' : Nat, x' = 4294967295 - x := ⟨_, rfl⟩
          rw [← hx'] at hxo
          have hx'l : x' < 4294967296 := by omega
          have hc := tk.c01
          obtain ⟨s, hs⟩ : ∃ s : Int, s = (x' : Int) + c' := ⟨_, rfl⟩
          have hsb : 0 ≤ s ∧ s < 18446744073709551616 := by omega
          have hws : IntKind.u64.wrap ((x' : Int) + c') = s := by
            rw [← hs]
            simp [IntKind.wrap, IntKind.bits, IntKind.signed]
            omega
          obtain ⟨s1, hs1⟩ : ∃ s1 : Int, s1 = s % 4294967296 := ⟨_, rfl⟩
          obtain ⟨s2, hs2⟩ : ∃ s2 : Int, s2 = s / 4294967296 := ⟨_, rfl⟩
          have hw1 : IntKind.u32.wrap s = s1 := by rw [hs1]; simp [IntKind.wrap, IntKind.bits, IntKind.signed]
          have hw2 : s / 4294967296 = s2 := hs2.symm
          have hw3 : s % 4294967296 = s1 := hs1.symm
          have hs2b : 0 ≤ s2 ∧ s2 < 4294967296 := by omega
          have t' := tc_step tk hwsl2.out hkm (by rw [hx]; omega)
          have e1 : 4294967295 - ws.getD k 0 + c' = s := by rw [hx, hs]; omega
          rw [e1, ← hs1, ← hs2] at t'
          have r' := rk.set k (by omega) s1
          have k' := kk.setCell (p := ⟨E1, k, none⟩) (Or.inr HE1.out.1) (.int .u32 s1)
          have HS := hide (And.intro hs (And.intro hs1 hs2))
          clear rk kk tk hx hx' hs hs1 hs2 e1 hc
          go_wp2
          go_roundw
          case rel => exact ⟨k + 1, s2, _, by go_num, by omega, rfl, r', k', t'⟩
          case measure => simp [intOf]; omega
        · have ek : k = m + 1 := by have := HNM.out; omega
          go_wp2
          go_meet
          exact ⟨c', wk, rk, kk, ek ▸ tk⟩
    case rest =>
    obtain ⟨c', wk, r5, k5, tc⟩ := hcut
    clear r1 k1 cm1
    have fin := HN.out ws wk c' HL1.out (by rw [← HY.out]; exact y0) (by rw [HNM.out]; exact tc)
    have FIN := hide fin
    clear fin tc HP HN
    go_wp2
    go_ret2
    exact ⟨E1, wk, by rw [hneg.out, hd0]; rfl, HE1.out.1, r5, FIN.out, k5⟩
  · have hd0 : decide (y < 0) = false := decide_eq_false y0
    have fin := HP.out ws HL1.out (by rw [← HY.out]; omega)
    have FIN := hide fin
    clear fin HP HN
    go_wp2
    go_ret2
    exact ⟨E1, ws, by rw [hneg.out, hd0]; rfl, HE1.out.1, r1, FIN.out, k1⟩

end Fl
end Go.Proofs.Qxb6615471aFmt
