/-
  THE WALKS of the law's helpers: zzBytes, zzInDomain, zzCloneInts, zzSign.
-/
import Derived.Test.Qxb6615471aFmtTotB
namespace Go.Proofs.Qxb6615471aFmt
open Go.RowKit
set_option linter.unusedVariables false
namespace Fl

def BOut (e : Ending) : Prop := ∃ t : Bool, e = .returned (.bool t)

theorem bytes_any (a : Option Addr) (n c : Nat) (low : Int) (w : World) : Calls Tryf.prog 11 #[.slice a n c, .int .i64 low] w fun e w' => BOut e ∧ w' = w := by
  by_cases h : (1048576 : Int) < n
  · go_enter Tryf.func11, Tryf.ntmps11
    go_wp2
    go_ret
    exact ⟨⟨_, rfl⟩, rfl⟩
  · go_enter Tryf.func11, Tryf.ntmps11
    go_wp2
    go_ret
    exact ⟨⟨_, rfl⟩, rfl⟩

theorem bytes5_any (a : Option Addr) (n c : Nat) (low mi ot : Int) (w : World) : Calls Tryf.prog 5 #[.slice a n c, .int .i64 low, .int .i64 mi, .int .i64 ot] w fun e w' => BOut e ∧ w' = w := by
  by_cases h : (1048576 : Int) < n
  · go_enter Tryf.func5, Tryf.ntmps5
    go_wp2
    go_ret
    exact ⟨⟨_, rfl⟩, rfl⟩
  · go_enter Tryf.func5, Tryf.ntmps5
    go_wp2
    go_ret
    exact ⟨⟨_, rfl⟩, rfl⟩

theorem and_14 (d : Int) (h1 : -9223372036854775808 ≤ d) (h2 : d < 9223372036854775808) : bits .and .i64 d 16383 = d % 16384 := by
  have hm : (BitVec.ofInt 64 (16383 : Int)).toNat = 2 ^ 14 - 1 := by decide
  show IntKind.i64.wrap ((BitVec.ofInt 64 d &&& BitVec.ofInt 64 (16383 : Int)).toNat : Int) = _
  rw [BitVec.toNat_and, hm, Nat.and_two_pow_sub_one_eq_mod, BitVec.toNat_ofInt]
  simp [IntKind.wrap, IntKind.bits, IntKind.signed]
  omega

/-- what zzInDomain asks -/
structure Dom (zs : List Int) (n : Nat) (low : Int) : Prop where
  l1 : -34 ≤ low
  l2 : low ≤ 1048576
  digit : ∀ i, i < n → (i + 1 < n → 0 ≤ zs.getD i 0 ∧ zs.getD i 0 < 4294967296) ∧ (i + 1 = n → -2147483648 ≤ zs.getD i 0 ∧ zs.getD i 0 < 2147483648)
  first : low = -34 → 0 < n → zs.getD 0 0 % 16384 = 0

def DomOut (zs : List Int) (n : Nat) (low : Int) (e : Ending) : Prop := ∃ t : Bool, e = .returned (.bool t) ∧ (t = true → Dom zs n low)

theorem dom_no (zs : List Int) (n : Nat) (low : Int) : DomOut zs n low (.returned (.bool false)) := ⟨false, rfl, fun h => by cases h⟩

/-- the digits below k are as they should be -/
structure DK (zs : List Int) (n k : Nat) : Prop where
  digit : ∀ i, i < k → (i + 1 < n → 0 ≤ zs.getD i 0 ∧ zs.getD i 0 < 4294967296) ∧ (i + 1 = n → -2147483648 ≤ zs.getD i 0 ∧ zs.getD i 0 < 2147483648)

/-- the cells of the slice that came in -/
def In (w : World) (a : Option Addr) (n : Nat) (zs : List Int) : Prop := zs.length = n ∧ (0 < n → ∃ b off, a = some ⟨b, off, none⟩ ∧ b < w.heap.size ∧ Cl w .i64 b off zs)

theorem In.at {w : World} {a : Option Addr} {n : Nat} {zs : List Int} (h : In w a n zs) (k : Nat) (hk : k < n) : ∃ b off, a = some ⟨b, off, none⟩ ∧ b < w.heap.size ∧ w.cell? ⟨b, off + k, none⟩ = some (.int .i64 (zs.getD k 0)) := by
  obtain ⟨b, off, e, hb, hc⟩ := h.2 (by omega)
  exact ⟨b, off, e, hb, hc k (by rw [h.1]; exact hk)⟩

set_option maxHeartbeats 4000000 in
set_option maxRecDepth 100000 in
theorem dom_any (a : Option Addr) (n c : Nat) (low : Int) (zs : List Int) (w : World) (hn : n ≤ 131072) (h : In w a n zs) (hw : ∀ i, i < n → -9223372036854775808 ≤ zs.getD i 0 ∧ zs.getD i 0 < 9223372036854775808) :
    Calls Tryf.prog 6 #[.slice a n c, .int .i64 low] w fun e w' => DomOut zs n low e ∧ w' = w := by
  by_cases h1 : low < -34
  · go_enter Tryf.func6, Tryf.ntmps6
    go_wp2
    go_ret
    exact ⟨dom_no _ _ _, rfl⟩
  by_cases h2 : 1048576 < low
  · go_enter Tryf.func6, Tryf.ntmps6
    go_wp2
    go_ret
    exact ⟨dom_no _ _ _, rfl⟩
  have HH := hide h
  have HWF := hide hw
  clear h hw
  go_enter Tryf.func6, Tryf.ntmps6
  go_wp2
  go_loopw [6, 7] (fun s6 s7 wr => ∃ k : Nat, s6 = .int .i64 k ∧ k ≤ n ∧ w = wr ∧ DK zs n k) (fun s6 _ _ => n - (intOf s6).toNat)
  case atStart => exact ⟨0, rfl, Nat.zero_le _, rfl, ⟨fun i hi => absurd hi (Nat.not_lt_zero _)⟩⟩
  case round =>
    obtain ⟨k, rfl, hk, hw, dk⟩ := hrel
    subst wr
    by_cases hlt : (k : Int) < n
    · obtain ⟨b, off, rfl, hb, hc⟩ := HH.out.at k (by omega)
      have hk0 : (0 : Int) ≤ k := by omega
      obtain ⟨d, hd⟩ : ∃ d, d = zs.getD k 0 := ⟨_, rfl⟩
      rw [← hd] at hc
      have HD := hide hd
      clear hd
      by_cases hl : (k : Int) < (n : Int) - 1
      · by_cases d0 : d < 0
        · go_wp2
          go_ret
          exact ⟨dom_no _ _ _, rfl⟩
        by_cases d1 : 4294967295 < d
        · go_wp2
          go_ret
          exact ⟨dom_no _ _ _, rfl⟩
        have dk' : DK zs n (k + 1) := by
          refine ⟨fun i hi => ?_⟩
          by_cases e : i = k
          · subst e
            rw [← HD.out]
            exact ⟨fun _ => by omega, fun _ => by omega⟩
          · exact dk.digit i (by omega)
        clear dk
        go_wp2
        go_roundw
        case rel => exact ⟨k + 1, by go_num, by omega, by trivial, dk'⟩
        case measure => simp [intOf]; omega
      · by_cases d0 : d < -2147483648
        · go_wp2
          go_ret
          exact ⟨dom_no _ _ _, rfl⟩
        by_cases d1 : 2147483647 < d
        · go_wp2
          go_ret
          exact ⟨dom_no _ _ _, rfl⟩
        have dk' : DK zs n (k + 1) := by
          refine ⟨fun i hi => ?_⟩
          by_cases e : i = k
          · subst e
            rw [← HD.out]
            exact ⟨fun _ => by omega, fun _ => by omega⟩
          · exact dk.digit i (by omega)
        clear dk
        go_wp2
        go_roundw
        case rel => exact ⟨k + 1, by go_num, by omega, by trivial, dk'⟩
        case measure => simp [intOf]; omega
    · have ek : k = n := by omega
      subst ek
      by_cases l34 : low = -34
      · by_cases n0 : k = 0
        · have yes : DomOut zs k low (.returned (.bool true)) := ⟨true, rfl, fun _ => ⟨by omega, by omega, dk.digit, fun _ h => by omega⟩⟩
          subst n0
          subst l34
          clear dk
          go_wp2
          go_ret
          exact ⟨yes, rfl⟩
        · obtain ⟨b, off, rfl, hb, hc⟩ := HH.out.at 0 (by omega)
          obtain ⟨d, hd⟩ : ∃ d, d = zs.getD 0 0 := ⟨_, rfl⟩
          rw [← hd, Nat.add_zero] at hc
          have hwf := HWF.out 0 (by omega)
          rw [← hd] at hwf
          have ha := and_14 d hwf.1 hwf.2
          obtain ⟨m, hm⟩ : ∃ m, m = d % 16384 := ⟨_, rfl⟩
          rw [← hm] at ha
          have hk0 : (0 : Int) < k := by omega
          have HDD : Hid (m = zs.getD 0 0 % 16384) := by show m = _; rw [hm, hd]
          clear hd hm
          by_cases m0 : m = 0
          · have yes : DomOut zs k low (.returned (.bool true)) := ⟨true, rfl, fun _ => ⟨by omega, by omega, dk.digit, fun _ _ => by rw [← HDD.out]; exact m0⟩⟩
            subst m0
            subst l34
            clear dk
            go_wp2
            go_ret
            exact ⟨yes, rfl⟩
          · have m0' : (m != 0) = true := by simpa using m0
            subst l34
            clear dk
            go_wp2
            go_ret
            exact ⟨dom_no _ _ _, rfl⟩
      · have yes : DomOut zs k low (.returned (.bool true)) := ⟨true, rfl, fun _ => ⟨by omega, by omega, dk.digit, fun e => absurd e l34⟩⟩
        have l34' : (low == -34) = false := by simpa using l34
        clear dk
        go_wp2
        go_ret
        exact ⟨yes, rfl⟩

theorem Tryf.info62 : (Tryf.prog.info? 62).map (fun i => (i.zero, i.size, i.bytes)) = some (some (.int .u32 0), 1, 4) := by kernel_rfl

theorem make_run (t e : TypeId) (k : IntKind) (bytes : Nat) (h1 : Tryf.prog.underlying t = some (.slice e)) (hi : (Tryf.prog.info? e).map (fun i => (i.zero, i.size, i.bytes)) = some (some (.int k 0), 1, bytes)) (hb : bytes ≤ 8) (n : Nat) (hn : n ≤ 1048576) (w : World) :
    (Instr.makeSlice t (.int .i64 n) (.int .i64 n)).run Tryf.prog w = .ok (.slice (some ⟨w.heap.size, 0, none⟩) n n) (w.alloc (.cells (madeCells #[Value.int k 0] n) e)) := by
  obtain ⟨i, hi, hz0, hz1, hz2⟩ := info_parts hi
  have := run_make (P := Tryf.prog) w t e i (.int k 0) h1 hi hz0 .i64 .i64 (n : Int) (n : Int) (by omega) (by omega) (by
    rw [hz2]
    have : ((bytes : Int) * (n : Int)) ≤ 8 * 1048576 := Int.mul_le_mul (by omega) (by omega) (by omega) (by omega)
    omega) (by omega)
  rw [hz1] at this
  simpa [Value.cells] using this

/-- clone's loop -/
structure CK (zs : List Int) (n k : Nat) (zk : List Int) : Prop where
  len : zk.length = n
  low : ∀ j, j < k → zk.getD j 0 = zs.getD j 0

theorem ck_end {zs zk : List Int} {n : Nat} (hl : zs.length = n) (h : CK zs n n zk) : zk = zs := by
  apply List.ext_getElem?
  intro j
  have hz := h.len
  by_cases hj : j < n
  · have := h.low j hj
    rw [List.getD_eq_getElem?_getD, List.getD_eq_getElem?_getD] at this
    rw [List.getElem?_eq_getElem (by omega), List.getElem?_eq_getElem (by omega)] at this ⊢
    simpa using this
  · rw [List.getElem?_eq_none (by omega), List.getElem?_eq_none (by omega)]

set_option maxHeartbeats 4000000 in
set_option maxRecDepth 100000 in
theorem clone_any (a : Option Addr) (n c : Nat) (zs : List Int) (w : World) (hn : n ≤ 131072) (h : In w a n zs) (hnil : a ≠ none) :
    Calls Tryf.prog 7 #[.slice a n c] w fun e w' => e = .returned (.slice (some ⟨w.heap.size, 0, none⟩) n n) ∧ Row w' .i64 2 w.heap.size n zs ∧ Kept w w' [] := by
  obtain ⟨ad, rfl⟩ : ∃ ad, a = some ad := by
    cases a with
    | none => exact absurd rfl hnil
    | some ad => exact ⟨ad, rfl⟩
  have hnl : ∀ w, (binOp .eql 22 (.slice (some ad) n c) (.slice none 0 0)).run Tryf.prog w = .ok (.bool false) w := fun w => Lib.run_eql_slice_nil (P := Tryf.prog) w 22 2 _ _ _ 0 0 Tryf.underlying22
  have hmk := make_run 22 2 .i64 8 Tryf.underlying22 Tryf.info2 (by decide) n (by omega)
  obtain ⟨w0, hw0⟩ : ∃ w0, w0 = w.alloc (.cells (madeCells #[Value.int .i64 0] n) 2) := ⟨_, rfl⟩
  have k0 : Kept w w0 [] := by rw [hw0]; exact (Kept.refl _ _).alloc _
  have r0 : Row w0 .i64 2 w.heap.size n (List.replicate n 0) := by rw [hw0]; exact Row.made w .i64 2 n
  have HW := hide hw0
  have HH := hide h
  clear hw0 h hnil
  go_enter Tryf.func7, Tryf.ntmps7
  go_wp2
  rw [← HW.out]
  clear HW hmk hnl
  go_loopw [4] (fun s4 wr => ∃ (k : Nat) (zk : List Int), s4 = .int .i64 k ∧ k ≤ n ∧ Row wr .i64 2 w.heap.size n zk ∧ Kept w wr [] ∧ CK zs n k zk) (fun s4 _ => n - (intOf s4).toNat)
  case atStart => exact ⟨0, _, rfl, Nat.zero_le _, r0, k0, ⟨by simp, fun j hj => absurd hj (Nat.not_lt_zero _)⟩⟩
  case round =>
    obtain ⟨k, zk, rfl, hk, rk, kk, ck⟩ := hrel
    clear r0 k0
    by_cases hlt : (k : Int) < n
    · obtain ⟨b, off, hab, hb, hc⟩ := HH.out.at k (by omega)
      have hc' := (kk.cell (p := ⟨b, off + k, none⟩) hb (by simp)).trans hc
      have eab : ad = ⟨b, off, none⟩ := by simpa using hab
      subst eab
      have cD := rk.cell k (by rw [ck.len]; omega)
      have fD := rk.frozen k
      have hk0 : (0 : Int) ≤ k := by omega
      obtain ⟨d, hd⟩ : ∃ d, d = zs.getD k 0 := ⟨_, rfl⟩
      rw [← hd] at hc'
      generalize zk.getD k 0 = old at *
      have r' := rk.set k (by rw [ck.len]; omega) d
      have k' := kk.setCell (p := ⟨w.heap.size, k, none⟩) (Or.inr (Nat.le_refl _)) (.int .i64 d)
      have hkl := ck.len
      have ck' : CK zs n (k + 1) (zk.set k d) := by
        refine ⟨by simpa using hkl, fun j hj => ?_⟩
        by_cases e : j = k
        · rw [e, getD_set_eq _ _ _ (by omega), hd]
        · rw [getD_set_ne _ _ _ _ (by omega)]
          exact ck.low j (by omega)
      clear rk kk ck hd hc
      go_wp2
      go_roundw
      case rel => exact ⟨k + 1, _, by go_num, by omega, r', k', ck'⟩
      case measure => simp [intOf]; omega
    · have ek : k = n := by omega
      subst ek
      have e := ck_end HH.out.1 ck
      subst e
      go_wp2
      go_ret
      exact ⟨rfl, rk, kk⟩

set_option maxRecDepth 100000 in
theorem clone_nil (w : World) : Calls Tryf.prog 7 #[.slice none 0 0] w fun e w' => e = .returned (.slice none 0 0) ∧ w' = w := by
  have hnl : ∀ w, (binOp .eql 22 (.slice none 0 0) (.slice none 0 0)).run Tryf.prog w = .ok (.bool true) w := fun w => Lib.run_eql_slice_nil (P := Tryf.prog) w 22 2 none 0 0 0 0 Tryf.underlying22
  go_enter Tryf.func7, Tryf.ntmps7
  go_wp2
  go_ret
  exact ⟨rfl, rfl⟩

/-- the sign of a sum -/
def sgn (x : Int) : Int := if x < 0 then -1 else if x = 0 then 0 else 1

structure ZK (zs : List Int) (k : Nat) : Prop where
  z : ∀ j, j < k → zs.getD j 0 = 0

set_option maxHeartbeats 4000000 in
set_option maxRecDepth 100000 in
theorem sign_any (a : Option Addr) (n c : Nat) (zs : List Int) (w : World) (hn : n ≤ 131072) (h : In w a n zs) (hc : 1 ≤ n → Carried zs) :
    Calls Tryf.prog 13 #[.slice a n c] w fun e w' => e = .returned (.int .i64 (sgn (val zs))) ∧ w' = w := by
  by_cases n0 : n = 0
  · subst n0
    have e : zs = [] := List.eq_nil_of_length_eq_zero h.1
    subst e
    have hs : sgn (val []) = 0 := by decide
    rw [hs]
    clear hc h
    go_enter Tryf.func13, Tryf.ntmps13
    go_wp2
    go_ret
    exact ⟨rfl, rfl⟩
  have hl := h.1
  have hne : zs ≠ [] := by
    intro e
    rw [e] at hl
    simp at hl
    omega
  have car := hc (by omega)
  have sg := car.sign hne
  obtain ⟨m, rfl⟩ : ∃ m, n = m + 1 := ⟨n - 1, by omega⟩
  rw [hl, show m + 1 - 1 = m from rfl] at sg
  obtain ⟨b, off, rfl, hb, hcl⟩ := h.2 (by omega)
  have cm := hcl m (by omega)
  obtain ⟨y, hy⟩ : ∃ y, y = zs.getD m 0 := ⟨_, rfl⟩
  rw [← hy] at cm sg
  have nn : (((m : Int) + 1) == 0) = false := by simp; omega
  by_cases y0 : y < 0
  · have hs : sgn (val zs) = -1 := by
      unfold sgn
      rw [if_pos]
      have : ¬ 0 ≤ val zs := fun e => by have := sg.1 e; omega
      omega
    rw [hs]
    clear hc h hcl sg hy
    go_enter Tryf.func13, Tryf.ntmps13
    go_wp2
    go_ret
    exact ⟨rfl, rfl⟩
  have hv0 := sg.2 (by omega)
  have hall := car.all (by rw [hl, show m + 1 - 1 = m from rfl, ← hy]; omega)
  have HV := hide hv0
  have HA := hide hall
  have HL := hide hl
  have HCl := hide hcl
  clear hc h sg hy hv0 hall hl car hcl
  go_enter Tryf.func13, Tryf.ntmps13
  go_wp2
  go_loopw [4] (fun s4 wr => ∃ k : Nat, s4 = .int .i64 k ∧ k ≤ m + 1 ∧ w = wr ∧ ZK zs k) (fun s4 _ => m + 1 - (intOf s4).toNat)
  case atStart => exact ⟨0, rfl, Nat.zero_le _, rfl, ⟨fun j hj => absurd hj (Nat.not_lt_zero _)⟩⟩
  case round =>
    obtain ⟨k, rfl, hk, hw, zk⟩ := hrel
    subst wr
    clear cm
    by_cases hlt : (k : Int) < (m : Int) + 1
    · have ck := HCl.out k (by rw [HL.out]; omega)
      have hk0 : (0 : Int) ≤ k := by omega
      obtain ⟨d, hd⟩ : ∃ d, d = zs.getD k 0 := ⟨_, rfl⟩
      rw [← hd] at ck
      by_cases d0 : d = 0
      · have zk' : ZK zs (k + 1) := by
          refine ⟨fun j hj => ?_⟩
          by_cases e : j = k
          · rw [e, ← hd]; exact d0
          · exact zk.z j (by omega)
        subst d0
        clear zk hd
        go_wp2
        go_roundw
        case rel => exact ⟨k + 1, by go_num, by omega, by trivial, zk'⟩
        case measure => simp [intOf]; omega
      · have hs : sgn (val zs) = 1 := by
          have hne0 : val zs ≠ 0 := fun e => d0 (by rw [hd]; exact val_zero' zs HA.out e k (by rw [HL.out]; omega))
          unfold sgn
          rw [if_neg (by have := HV.out; omega), if_neg hne0]
        have d0' : (d != 0) = true := by simpa using d0
        clear zk hd
        go_wp2
        go_ret
        exact ⟨by first | rfl | (rw [hs]; rfl), rfl⟩
    · have hs : sgn (val zs) = 0 := by
        have := val_zero zs (fun i hi => zk.z i (by rw [HL.out] at hi; omega))
        unfold sgn
        rw [this]
        decide
      clear zk
      go_wp2
      go_ret
      exact ⟨by first | rfl | (rw [hs]; rfl), rfl⟩

end Fl
end Go.Proofs.Qxb6615471aFmt
