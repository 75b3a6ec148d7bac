/-
  THE WALKS of negate and float64.
-/
import Derived.Test.Qxb6615471aFmtCar
import Derived.Shelf.RegionOpenPlain
namespace Go.Proofs.Qxb6615471aFmt
open Go.RowKit
set_option linter.unusedVariables false
namespace Fl

theorem getD_map_neg (zs : List Int) (j : Nat) : (zs.map (fun d => -d)).getD j 0 = -zs.getD j 0 := by
  rw [List.getD_eq_getElem?_getD, List.getD_eq_getElem?_getD, List.getElem?_map]
  cases zs[j]? <;> simp

theorem getD_snoc (zs : List Int) (d : Int) (j : Nat) : (zs ++ [d]).getD j 0 = if j < zs.length then zs.getD j 0 else if j = zs.length then d else 0 := by
  rw [List.getD_eq_getElem?_getD, List.getD_eq_getElem?_getD]
  by_cases h : j < zs.length
  · rw [List.getElem?_append_left h, if_pos h]
  · rw [List.getElem?_append_right (by omega), if_neg h]
    by_cases e : j = zs.length
    · rw [if_pos e, e]
      simp
    · rw [if_neg e]
      have : j - zs.length ≠ 0 := by omega
      obtain ⟨k, hk⟩ : ∃ k, j - zs.length = k + 1 := ⟨j - zs.length - 1, by omega⟩
      rw [hk]
      simp

/-- the opposite's digits and one more: what carry is given -/
theorem cov_facts (zs : List Int) (n : Nat) (hl : zs.length = n) (hn : 1 ≤ n) (c : Carried zs) :
    (cov (zs.map (fun d => -d))).length = n + 1 ∧ (∀ j, j < n → -4294967296 < (cov (zs.map (fun d => -d))).getD j 0 ∧ (cov (zs.map (fun d => -d))).getD j 0 < 4294967296) ∧
      ((cov (zs.map (fun d => -d))).getD n 0 = 0 ∨ (cov (zs.map (fun d => -d))).getD n 0 = -1) ∧ val (cov (zs.map (fun d => -d))) = -val zs := by
  have hm : (zs.map (fun d => -d)).length = n := by simpa using hl
  have hv : val (cov (zs.map (fun d => -d))) = -val zs := by
    rw [val_cov _ (by intro e; rw [e] at hm; simp at hm; omega), val_map_neg]
  have low : ∀ j, j + 1 < n → -4294967296 < (zs.map (fun d => -d)).getD j 0 ∧ (zs.map (fun d => -d)).getD j 0 < 4294967296 := by
    intro j hj
    rw [getD_map_neg]
    have := c.low j (by omega)
    omega
  have last := c.last
  rw [hl] at last
  have lastn : (zs.map (fun d => -d)).getD (n - 1) 0 = -zs.getD (n - 1) 0 := getD_map_neg _ _
  generalize zs.map (fun d => -d) = ms at *
  have key : cov ms = if ms.getD (n - 1) 0 < 0 then ms.set (n - 1) (ms.getD (n - 1) 0 + 4294967296) ++ [-1] else ms ++ [0] := by
    unfold cov
    rw [hm]
  by_cases c0 : ms.getD (n - 1) 0 < 0
  · rw [if_pos c0] at key
    have hsl : (ms.set (n - 1) (ms.getD (n - 1) 0 + 4294967296)).length = n := by simpa using hm
    refine ⟨by rw [key]; simp [hm], fun j hj => ?_, ?_, hv⟩
    · rw [key, getD_snoc, if_pos (by rw [hsl]; exact hj)]
      by_cases e : j = n - 1
      · rw [e, getD_set_eq _ _ _ (by omega)]
        omega
      · rw [getD_set_ne _ _ _ _ (by omega)]
        exact low j (by omega)
    · rw [key, getD_snoc, if_neg (by omega), if_pos hsl.symm]
      exact Or.inr rfl
  · rw [if_neg c0] at key
    refine ⟨by rw [key]; simp [hm], fun j hj => ?_, ?_, hv⟩
    · rw [key, getD_snoc, if_pos (by rw [hm]; exact hj)]
      by_cases e : j = n - 1
      · rw [e]
        omega
      · exact low j (by omega)
    · rw [key, getD_snoc, if_neg (by omega), if_pos hm.symm]
      exact Or.inl rfl

/-- negate's loop: the digits below k are turned -/
structure NK (zs : List Int) (n k : Nat) (zk : List Int) : Prop where
  len : zk.length = n
  low : ∀ j, j < k → zk.getD j 0 = -zs.getD j 0
  high : ∀ j, k ≤ j → zk.getD j 0 = zs.getD j 0

theorem nk_start (zs : List Int) (n : Nat) (h : zs.length = n) : NK zs n 0 zs := ⟨h, fun j hj => absurd hj (Nat.not_lt_zero _), fun _ _ => rfl⟩
theorem nk_step {zs zk : List Int} {n k : Nat} (h : NK zs n k zk) (hk : k < n) : NK zs n (k + 1) (zk.set k (-zk.getD k 0)) := by
  have hl := h.len
  refine ⟨by simpa using hl, fun j hj => ?_, fun j hj => ?_⟩
  · by_cases e : j = k
    · rw [e, getD_set_eq _ _ _ (by omega), h.high k (Nat.le_refl _)]
    · rw [getD_set_ne _ _ _ _ (by omega)]
      exact h.low j (by omega)
  · rw [getD_set_ne _ _ _ _ (by omega)]
    exact h.high j (by omega)
theorem nk_end {zs zk : List Int} {n : Nat} (hl : zs.length = n) (h : NK zs n n zk) : zk = zs.map (fun d => -d) := by
  apply List.ext_getElem?
  intro j
  have hz := h.len
  by_cases hj : j < n
  · have := h.low j hj
    rw [List.getElem?_map]
    rw [List.getD_eq_getElem?_getD, List.getD_eq_getElem?_getD] at this
    rw [List.getElem?_eq_getElem (by omega), List.getElem?_eq_getElem (by omega)] at this ⊢
    simpa using this
  · rw [List.getElem?_eq_none (by omega), List.getElem?_eq_none (by simp; omega)]

/-- what negate leaves -/
def NegOut (w0 : World) (T D0 n : Nat) (low mi ot v : Int) (W : World) : Prop :=
  ∃ D' n' cap' zs', NS w0 T D0 low mi ot W D' n' cap' zs' ∧ Carried zs' ∧ val zs' = v ∧ 1 ≤ n' ∧ n' ≤ n + 1

set_option maxHeartbeats 8000000 in
set_option maxRecDepth 100000 in
theorem negate_any (w0 : World) (T D0 D n cap : Nat) (low mi ot : Int) (zs : List Int) (W : World) (h : NS w0 T D0 low mi ot W D n cap zs) (hn1 : 1 ≤ n) (hn : n ≤ 1048575) (hl1 : -34 ≤ low) (hl2 : low ≤ 1048576) (c : Carried zs) (hv : val zs ≠ 0) :
    Calls Tryf.prog 23 #[.pointer (some ⟨T, 0, none⟩)] W fun e w' => e = .returned (.tuple #[]) ∧ NegOut w0 T D0 n low mi ot (-val zs) w' := by
  have hlen := h.len
  have cf := cov_facts zs n hlen hn1 c
  have CB : Hid (∀ i, i < n → -4294967296 < zs.getD i 0 ∧ zs.getD i 0 < 4294967296) := by
    intro i hi
    by_cases e : i + 1 < n
    · have := c.low i (by omega)
      omega
    · have := c.last
      rw [hlen, show n - 1 = i by omega] at this
      omega
  have CF := hide cf
  have HV := hide hv
  have HC := hide c
  clear cf hv c
  have c0 := h.sum.c0
  have hn0 : ((n : Int) == 0) = false := by simp; omega
  go_enter Tryf.func23, Tryf.ntmps23
  go_upto_block 0 with fail
  go_cut [2, 14] (fun s2 s14 wx => NS w0 T D0 low mi ot wx D n cap (zs.map (fun d => -d)))
  case first =>
    clear CF
    go_wp2_with fail
    go_loopw [2, 14] (fun s2 s14 wr => ∃ (k : Nat) (zk : List Int), s14 = .int .i64 k ∧ k ≤ n ∧ NS w0 T D0 low mi ot wr D n cap zk ∧ NK zs n k zk) (fun _ s14 _ => n - (intOf s14).toNat)
    case atStart => exact ⟨0, zs, rfl, Nat.zero_le _, h, nk_start zs n hlen⟩
    case round =>
      obtain ⟨k, zk, rfl, hk, sk, nk⟩ := hrel
      clear h c0
      by_cases hlt : (k : Int) < n
      · have hkn : k < n := by omega
        have c0 := sk.sum.c0
        have ck := sk.row.cell k (by rw [sk.len]; exact hkn)
        have fk := sk.row.frozen k
        have hk0 : (0 : Int) ≤ k := by omega
        obtain ⟨d, hd⟩ : ∃ d, d = zk.getD k 0 := ⟨_, rfl⟩
        have bd := CB.out k hkn
        rw [← nk.high k (Nat.le_refl _), ← hd] at bd
        rw [← hd] at ck
        have s' := (sk.set k hkn (-d)).drew
        have nk' := nk_step nk hkn
        rw [← hd] at nk'
        clear sk nk hd
        go_wp2
        go_region
        go_wp2
        go_roundw
        case rel => exact ⟨k + 1, _, by go_num, by omega, s', nk'⟩
        case measure => simp [intOf]; omega
      · have ek : k = n := by omega
        subst ek
        have e := nk_end hlen nk
        subst e
        go_wp2
        go_meet
        exact sk
  case rest =>
  clear h c0
  have c0 := hcut.sum.c0
  have c1 := hcut.sum.c1
  have hc : Hid (∀ (q : Nat) (tt : Int), tt = low + n → Calls Tryf.prog 30 #[.pointer (some ⟨T, 0, none⟩), .int .i64 low, .int .i64 tt] (wc.drewN q) fun e w' => e = .returned (.tuple #[]) ∧ ∃ D' cap', NS w0 T D0 low mi ot w' D' (n + 1) cap' (cov (zs.map (fun d => -d)))) := by
    rintro q tt rfl
    exact cover_any w0 T D0 D n cap low mi ot _ (wc.drewN q) (hcut.drewN q) hn1 (by omega) hl1 hl2 (fun i hi => by rw [getD_map_neg]; have := CB.out i hi; omega)
  have HW : Hid (IntKind.i64.wrap (low + n) = low + n) := by
    show IntKind.i64.wrap (low + n) = low + n
    simp [IntKind.wrap, IntKind.bits, IntKind.signed]
    omega
  go_upto_region 6 with fail
  go_cut [] (fun wx => ∃ D' cap', NS w0 T D0 low mi ot wx D' (n + 1) cap' (cov (zs.map (fun d => -d))))
  case first =>
    clear CF CB HC HV
    go_region_with (go_at_call 30; refine (hc.out 1 _ HW.out).mono ?_; rintro e w' ⟨rfl, hx⟩)
    all_goals
      go_wp2
      go_meet
      exact hx
  case rest =>
  obtain ⟨D', cap', s2⟩ := hcut
  clear c0 c1 hc HW
  have c0 := s2.sum.c0
  have hcr := hide (fun (tt : Int) (ht : tt = n) => carry_any w0 T D0 D' n cap' low mi ot tt _ wc s2 ht hn1 (by omega) CF.out.2.1 CF.out.2.2.1 (by rw [CF.out.2.2.2]; have := HV.out; omega))
  clear CB HC
  go_wp2_with fail
  refine (hcr.out _ (by omega)).mono ?_
  rintro e w' ⟨rfl, n', zs', s3, cz, vz, hn1', hn2'⟩
  have hv' : val zs' = -val zs := by rw [vz]; exact CF.out.2.2.2
  go_wp2
  go_end0
  exact ⟨rfl, D', n', cap', zs', s3, cz, hv', hn1', hn2'⟩

end Fl
end Go.Proofs.Qxb6615471aFmt
