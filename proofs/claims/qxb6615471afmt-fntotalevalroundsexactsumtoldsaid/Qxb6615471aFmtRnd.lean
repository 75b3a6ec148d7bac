/-
  THE WALK of zzRound.
-/
import Derived.Test.Qxb6615471aFmtBit
import Derived.Test.Qxb6615471aFmtMgn
namespace Go.Proofs.Qxb6615471aFmt
open Go.RowKit
set_option linter.unusedVariables false
set_option linter.unusedSimpArgs false
namespace Fl

theorem top_zero (V q : Nat) (h : V < 2 ^ (q + 1)) (hb : bit V (q : Int) = 0) : V < 2 ^ q := by
  unfold bit at hb
  rw [if_neg (by omega), Int.toNat_natCast] at hb
  have h2 : V / 2 ^ q < 2 := by
    rw [Nat.div_lt_iff_lt_mul (Nat.two_pow_pos _), Nat.mul_comm, ← Nat.pow_succ]
    exact h
  have h3 : V / 2 ^ q = 0 := by
    generalize V / 2 ^ q = z at *
    omega
  exact (Nat.div_eq_zero_iff_lt (Nat.two_pow_pos _)).1 h3

theorem top_one (V q : Nat) (h : V < 2 ^ (q + 1)) (hb : bit V (q : Int) ≠ 0) : V ≠ 0 ∧ V.log2 = q := by
  have hge : 2 ^ q ≤ V := by
    apply Classical.byContradiction
    intro hc
    apply hb
    unfold bit
    rw [if_neg (by omega), Int.toNat_natCast, Nat.div_eq_of_lt (by omega)]
  have := Nat.two_pow_pos q
  exact ⟨by omega, log2_of V q hge h⟩

/-- zzRound's first loop -/
structure P1 (V q : Nat) : Prop where
  lt : V < 2 ^ q

def Q1 (V q : Nat) : Prop := (q = 0 ∧ V = 0) ∨ (1 ≤ q ∧ V ≠ 0 ∧ V.log2 + 1 = q)

/-- its third -/
structure P3 (V : Nat) (c i : Int) (b : Bool) : Prop where
  eq : some1 V (c - 1) = (b || some1 V (i + 1))

/-- its fourth -/
structure P4 (m lb : Nat) : Prop where
  le : lb = 0 ∨ m / 2 ^ (lb - 1) ≠ 0

theorem p4_end (m lb : Nat) (h0 : m ≠ 0) (h : P4 m lb) (hz : m / 2 ^ lb = 0) : lb = m.log2 + 1 := by
  have hlt : m < 2 ^ lb := (Nat.div_eq_zero_iff_lt (Nat.two_pow_pos _)).1 hz
  rcases h.le with e | e
  · subst e
    simp at hlt
    omega
  · have hge : 2 ^ (lb - 1) ≤ m := by
      apply Classical.byContradiction
      intro hc
      exact e (Nat.div_eq_of_lt (by omega))
    have hl1 : lb ≠ 0 := by
      intro e0
      subst e0
      simp at hlt
      omega
    have := log2_of m (lb - 1) hge (by rw [show lb - 1 + 1 = lb by omega]; exact hlt)
    omega

/-- what zzRound hands back -/
def RndOut (w : World) (x low : Int) (e : Ending) (w' : World) : Prop :=
  ((mg x.natAbs low ≠ 2047 * 2 ^ 52 ∧ e = .returned (.tuple #[.float .f64 (fl x low), .bool false])) ∨ (mg x.natAbs low = 2047 * 2 ^ 52 ∧ e = .returned (.tuple #[.float .f64 0, .bool true]))) ∧ Kept w w' []

structure VF (E n V : Nat) (mk : List Int) (w0 W : World) : Prop where
  row : Row W .u32 62 E n mk
  len : mk.length = n
  dig : ∀ i, i < mk.length → 0 ≤ mk.getD i 0 ∧ mk.getD i 0 < 4294967296
  v : val mk = (V : Int)
  kept : Kept w0 W []

theorem VF.bit {E n V : Nat} {mk : List Int} {w0 W : World} (h : VF E n V mk w0 W) (hn : n ≤ 131072) (i : Int) (h1 : -1099511627776 ≤ i) (h2 : i ≤ 1099511627776) :
    Calls Tryf.prog 15 #[.slice (some ⟨E, 0, none⟩) n n, .int .i64 i] W fun e w' => e = .returned (.int .u64 (Fl.bit V i)) ∧ w' = W :=
  bit_any E n V i mk W h.row h.len hn h.dig h.v h1 h2

theorem or_step (M bt : Nat) (h : M < 2 ^ 53) (hb : bt < 2) : bits .or .u64 ((M : Int) * 2) (bt : Int) = ((2 * M + bt : Nat) : Int) := by
  have h1 := or_nat (M * 2) bt (by omega) (by omega)
  rw [nat_join 1 (M * 2) bt (by omega) (by omega)] at h1
  rw [show ((M : Int) * 2) = ((M * 2 : Nat) : Int) by omega, h1]
  omega

theorem cut_facts (V : Nat) (low : Int) (h0 : V ≠ 0) (hx : 2 ^ (-1074 - 32 * low).toNat ∣ V) : (V.log2 : Int) - 52 ≤ cutAt V (32 * low) ∧ cutAt V (32 * low) ≤ V.log2 := by
  have hk := Nat.le_of_dvd (by omega) hx
  have hle : (-1074 - 32 * low).toNat ≤ V.log2 := (Nat.le_log2 h0).2 hk
  unfold cutAt
  split <;> omega

set_option maxHeartbeats 16000000 in
set_option maxRecDepth 100000 in
theorem round_any (D m : Nat) (low : Int) (zs : List Int) (w : World) (hn : m + 1 ≤ 131072) (hl : zs.length = m + 1) (hD : Row w .i64 2 D (m + 1) zs) (car : Carried zs) (l1 : -34 ≤ low) (l2 : low ≤ 1048576) (hx : 2 ^ (-1074 - 32 * low).toNat ∣ (val zs).natAbs) :
    Calls Tryf.prog 8 #[.slice (some ⟨D, 0, none⟩) (m + 1 : Nat) (m + 1 : Nat), .int .i64 low] w (RndOut w (val zs) low) := by
  have hmg := mgn_any D m zs w hn hl hD car
  obtain ⟨n, hnm⟩ : ∃ n, n = m + 1 := ⟨_, rfl⟩
  rw [← hnm] at hmg hn ⊢
  obtain ⟨x, hxx⟩ : ∃ x, x = val zs := ⟨_, rfl⟩
  rw [← hxx] at hx ⊢
  have HX := hide hx
  have HXX := hide hxx
  clear hx hnm hl hD car
  go_enter Tryf.func8, Tryf.ntmps8
  go_wp2_with fail
  refine hmg.mono ?_
  rintro e w1 ⟨E, mk, rfl, hE, hr, mw, k1⟩
  obtain ⟨V, hV⟩ : ∃ V, V = x.natAbs := ⟨_, rfl⟩
  have vf : VF E n V mk w w1 := ⟨hr, mw.len, mw.dig, by rw [mw.v, ← HXX.out, hV], k1⟩
  rw [← HXX.out]
  have hVn : Hid (V < 2 ^ (32 * n)) := by
    have b := (val_bounds mk mw.dig).2
    rw [vf.v, mw.len, pow_digit] at b
    show V < 2 ^ (32 * n)
    omega
  have HVV := hide hV
  clear hr mw k1 hmg hE hxx HXX hV
  obtain ⟨ng, hng⟩ : ∃ ng, ng = decide (x < 0) := ⟨_, rfl⟩
  rw [← hng]
  have HNG := hide hng
  clear hng
  have hn32 : n ≤ 131072 := hn
  go_upto_block 0 with fail
  go_cut [8] (fun s8 wx => ∃ q : Nat, s8 = .int .i64 ((q : Int) - 1) ∧ w1 = wx ∧ q ≤ 32 * n ∧ Q1 V q)
  case first =>
    go_wp2_with fail
    go_loopw [8] (fun s8 wr => ∃ q : Nat, s8 = .int .i64 ((q : Int) - 1) ∧ w1 = wr ∧ q ≤ 32 * n ∧ P1 V q) (fun s8 _ => (intOf s8 + 1).toNat)
    case atStart => exact ⟨32 * n, by go_num, rfl, Nat.le_refl _, ⟨hVn.out⟩⟩
    case round =>
      obtain ⟨q, rfl, hw, hq, pq⟩ := hrel
      subst wr
      by_cases q0 : q = 0
      · subst q0
        have q1 : Q1 V 0 := Or.inl ⟨rfl, by have := pq.lt; simp at this; exact this⟩
        go_wp2
        go_meet
        exact ⟨0, rfl, by trivial, by omega, q1⟩
      · obtain ⟨i, rfl⟩ : ∃ i, q = i + 1 := ⟨q - 1, by omega⟩
        have ei : ((i + 1 : Nat) : Int) - 1 = (i : Int) := by omega
        rw [ei]
        have hb := vf.bit hn32 (i : Int) (by omega) (by omega)
        have hb2 := bit_lt V (i : Int)
        obtain ⟨bt, hbt⟩ : ∃ bt, bt = bit V (i : Int) := ⟨_, rfl⟩
        rw [← hbt] at hb hb2
        have hi0 : (0 : Int) ≤ i := by omega
        have hi1 : ¬ ((i : Int) < 0) := by omega
        by_cases b0 : bt = 0
        · have pq' : P1 V i := ⟨top_zero V i pq.lt (by rw [← hbt]; exact b0)⟩
          subst b0
          clear pq hbt
          go_wp2_with fail
          refine hb.mono ?_
          rintro e w' ⟨rfl, hw⟩
          subst w'
          go_wp2
          go_roundw
          case rel => exact ⟨i, rfl, by trivial, by omega, pq'⟩
          case measure => simp [intOf]
        · have t1 := top_one V i pq.lt (by rw [← hbt]; exact b0)
          have q1 : Q1 V (i + 1) := Or.inr ⟨by omega, t1.1, by rw [t1.2]⟩
          have b0' : ((bt : Int) == 0) = false := by simp; omega
          clear pq hbt t1
          go_wp2_with fail
          refine hb.mono ?_
          rintro e w' ⟨rfl, hw⟩
          subst w'
          go_wp2
          go_meet
          exact ⟨i + 1, by go_num, by trivial, hq, q1⟩
  case rest =>
  obtain ⟨q, rfl, hw, hq, q1⟩ := hcut
  subst hw
  rcases q1 with ⟨rfl, hV0⟩ | ⟨hq1, hV0, hlog⟩
  · have hmg0 : mg x.natAbs low = 0 := by
      unfold mg
      rw [if_pos (by rw [← HVV.out]; exact hV0)]
    have hx0 : x = 0 := by have := HVV.out; omega
    have out : RndOut w x low (.returned (.tuple #[.float .f64 0, .bool false])) w1 := by
      refine ⟨Or.inl ⟨by rw [hmg0]; omega, ?_⟩, vf.kept⟩
      have : fl x low = 0 := by
        rw [fl_word, hmg0, decide_eq_false (by omega), word_no]
      rw [this]
    have OUT := hide out
    clear out hmg0 hx0 hV0
    go_wp2
    go_ret2
    exact OUT.out
  · obtain ⟨L, hL⟩ : ∃ L, L = V.log2 := ⟨_, rfl⟩
    obtain ⟨c, hc⟩ : ∃ c, c = cutAt V (32 * low) := ⟨_, rfl⟩
    have hxV : 2 ^ (-1074 - 32 * low).toNat ∣ V := by rw [HVV.out]; exact HX.out
    have hcf := cut_facts V low hV0 hxV
    rw [← hc, ← hL] at hcf
    obtain ⟨hc1, hc2⟩ := hcf
    have HRD := hide (rounded V (32 * low) hV0 hxV)
    have hqL : (q : Int) - 1 = (L : Int) := by omega
    rw [hqL]
    have hLn : (L : Int) < 32 * n := by omega
    have HC : Hid (c = if (L : Int) + 32 * low < -1022 then -1074 - 32 * low else (L : Int) - 52) := by
      show c = _
      rw [hc, hL]
      rfl
    have HCC := hide hc
    have HLL := hide hL
    have HV0 := hide hV0
    clear hc hL hxV hV0 hlog hqL hq1 hVn hq
    go_upto_if 46 with fail
    go_cut [9] (fun s9 wx => s9 = .int .i64 c ∧ w1 = wx)
    case first =>
      by_cases hsub : (L : Int) + 32 * low < -1022
      · have e : c = -1074 - 32 * low := by rw [HC.out, if_pos hsub]
        go_wp2
        go_meet
        exact ⟨by rw [e], by trivial⟩
      · have e : c = (L : Int) - 52 := by rw [HC.out, if_neg hsub]
        go_wp2
        go_meet
        exact ⟨by rw [e], by trivial⟩
    case rest =>
    obtain ⟨rfl, hw⟩ := hcut
    subst hw
    clear HC
    go_upto_block 2 with fail
    go_cut [10, 11] (fun s10 s11 wx => s10 = .int .u64 (sh V c) ∧ w1 = wx)
    case first =>
      go_wp2_with fail
      go_loopw [10, 11] (fun s10 s11 wr => ∃ i : Int, s11 = .int .i64 i ∧ c - 1 ≤ i ∧ i ≤ L ∧ s10 = .int .u64 (sh V (i + 1)) ∧ w1 = wr) (fun _ s11 _ => (intOf s11 - c + 1).toNat)
      case atStart => exact ⟨L, rfl, by omega, by omega, by rw [HLL.out, sh_top V HV0.out]; rfl, rfl⟩
      case round =>
        obtain ⟨i, rfl, hi1, hi2, rfl, hw⟩ := hrel
        subst wr
        by_cases hic : c ≤ i
        · have hb := vf.bit hn32 i (by omega) (by omega)
          have hb2 := bit_lt V i
          have hst := sh_step V i
          have hlt := sh_lt V i HV0.out (by rw [← HLL.out]; omega)
          obtain ⟨bt, hbt⟩ : ∃ bt, bt = bit V i := ⟨_, rfl⟩
          obtain ⟨M, hM⟩ : ∃ M, M = sh V (i + 1) := ⟨_, rfl⟩
          obtain ⟨M2, hM2⟩ : ∃ M2, M2 = sh V i := ⟨_, rfl⟩
          rw [← hbt] at hb hb2 hst
          rw [← hM, ← hM2] at hst
          rw [← hM2] at hlt
          rw [← hM]
          have hor := or_step M bt (by omega) hb2
          rw [hst] at hor
          have HM2 := hide hM2
          have hMl : M < 4503599627370496 := by omega
          clear hbt hM hM2 hst
          go_wp2_with fail
          refine hb.mono ?_
          rintro e w' ⟨rfl, hw⟩
          subst w'
          go_wp2
          go_roundw
          case rel => exact ⟨i - 1, by go_num, by omega, by omega, by rw [show i - 1 + 1 = i by omega, ← HM2.out], by trivial⟩
          case measure => simp [intOf]; omega
        · have ei : i = c - 1 := by omega
          go_wp2
          go_meet
          exact ⟨by first | rfl | rw [ei, show c - 1 + 1 = c by omega], by trivial⟩
    case rest =>
    obtain ⟨rfl, hw⟩ := hcut
    subst hw
    have hbh := vf.bit hn32 (c - 1) (by omega) (by omega)
    have hbh2 := bit_lt V (c - 1)
    have hM53 := sh_lt V c HV0.out (by rw [← HLL.out]; omega)
    have HRB := hide (R_bits V c)
    obtain ⟨hf, hhf⟩ : ∃ hf, hf = bit V (c - 1) := ⟨_, rfl⟩
    obtain ⟨M, hM⟩ : ∃ M, M = sh V c := ⟨_, rfl⟩
    rw [← hhf] at hbh hbh2
    rw [← hM] at hM53 ⊢
    have HHF := hide (And.intro hhf hM)
    clear hhf hM
    go_wp2_with fail
    refine hbh.mono ?_
    rintro e w' ⟨rfl, hw⟩
    subst w'
    clear hbh
    go_upto_block 4 with fail
    go_cut [13, 14] (fun s13 s14 wx => s13 = .bool (some1 V (c - 1)) ∧ w1 = wx)
    case first =>
      go_wp2_with fail
      go_loopw [13, 14] (fun s13 s14 wr => ∃ (i : Int) (b : Bool), s14 = .int .i64 i ∧ i ≤ c - 2 ∧ -1099511627776 ≤ i ∧ s13 = .bool b ∧ w1 = wr ∧ P3 V c i b) (fun _ s14 _ => (intOf s14 + 1).toNat)
      case atStart => exact ⟨c - 2, false, by go_num, by omega, by omega, rfl, rfl, ⟨by rw [show c - 2 + 1 = c - 1 by omega]; simp⟩⟩
      case round =>
        obtain ⟨i, b, rfl, hi1, hi2, rfl, hw, p3⟩ := hrel
        subst wr
        by_cases hi0 : i < 0
        · have e : some1 V (c - 1) = b := by
            rw [p3.eq]
            have : some1 V (i + 1) = false := by
              unfold some1
              rw [show (i + 1).toNat = 0 by omega]
              simp [Nat.mod_one]
            rw [this, Bool.or_false]
          cases b
          · go_wp2
            go_meet
            exact ⟨by first | rfl | rw [e], by trivial⟩
          · go_wp2
            go_meet
            exact ⟨by first | rfl | rw [e], by trivial⟩
        · cases b
          · have hb := vf.bit hn32 i (by omega) (by omega)
            have hb2 := bit_lt V i
            obtain ⟨bt, hbt⟩ : ∃ bt, bt = bit V i := ⟨_, rfl⟩
            rw [← hbt] at hb hb2
            have hst := some1_step V i (by omega)
            rw [← hbt] at hst
            have p3' : P3 V c (i - 1) ((bt : Int) != 0) := by
              refine ⟨?_⟩
              rw [p3.eq, hst, show i - 1 + 1 = i by omega, Bool.false_or, Bool.or_comm]
              congr 1
              by_cases z : bt = 0
              · subst z; rfl
              · rw [decide_eq_true z]
                symm
                simp
                omega
            clear hbt hst p3
            go_wp2_with fail
            refine hb.mono ?_
            rintro e w' ⟨rfl, hw⟩
            subst w'
            go_wp2
            go_roundw
            case rel => exact ⟨i - 1, _, by go_num, by omega, by omega, rfl, by trivial, p3'⟩
            case measure => simp [intOf]; omega
          · have e : some1 V (c - 1) = true := by rw [p3.eq, Bool.true_or]
            go_wp2
            go_meet
            exact ⟨by first | rfl | rw [e], by trivial⟩
    case rest =>
    obtain ⟨rfl, hw⟩ := hcut
    subst hw
    obtain ⟨st, hst⟩ : ∃ st, st = some1 V (c - 1) := ⟨_, rfl⟩
    rw [← hst]
    obtain ⟨R1, hR1⟩ : ∃ R1, R1 = R V (-c) := ⟨_, rfl⟩
    have hRb : R1 = M + (if hf = 1 ∧ (st = true ∨ M % 2 = 1) then 1 else 0) := by
      rw [hR1, HRB.out, ← HHF.out.1, ← HHF.out.2, ← hst]
    have HR1 := hide hR1
    have HRB2 := hide hRb
    have hR1b : R1 ≤ 9007199254740992 := by rw [hRb]; split <;> omega
    clear hst hR1 hRb HRB HHF
    have hand : bits .and .u64 (M : Int) 1 = ((M % 2 : Nat) : Int) := by
      have := u64_and_nat M 1 (by omega) (by decide)
      rw [nat_mask1] at this
      exact this
    go_upto_region 21 with fail
    go_cut [89] (fun s89 wx => s89 = .bool (decide (hf = 1 ∧ (st = true ∨ M % 2 = 1))) ∧ w1 = wx)
    case first =>
      by_cases h1 : hf = 1
      · subst h1
        cases st
        · by_cases h2 : M % 2 = 1
          · have e : decide ((1 : Nat) = 1 ∧ (false = true ∨ M % 2 = 1)) = true := decide_eq_true ⟨rfl, Or.inr h2⟩
            rw [h2] at hand
            clear HRB2
            go_wp2
            go_meet
            exact ⟨by first | rfl | rw [e], by trivial⟩
          · have h3 : M % 2 = 0 := by omega
            have e : decide ((1 : Nat) = 1 ∧ (false = true ∨ M % 2 = 1)) = false := decide_eq_false (fun h => h.2.elim (fun a => by cases a) (fun a => by omega))
            rw [h3] at hand
            clear HRB2
            go_wp2
            go_meet
            exact ⟨by first | rfl | rw [e], by trivial⟩
        · have e : decide ((1 : Nat) = 1 ∧ (true = true ∨ M % 2 = 1)) = true := decide_eq_true ⟨rfl, Or.inl rfl⟩
          clear HRB2
          go_wp2
          go_meet
          exact ⟨by first | rfl | rw [e], by trivial⟩
      · have e : decide (hf = 1 ∧ (st = true ∨ M % 2 = 1)) = false := decide_eq_false (fun h => h1 h.1)
        have h1' : ((hf : Int) == 1) = false := by simp; omega
        clear HRB2
        go_wp2
        go_meet
        exact ⟨by first | rfl | rw [e], by trivial⟩
    case rest =>
    obtain ⟨rfl, hw⟩ := hcut
    subst hw
    clear hand
    go_upto_if 89 with fail
    go_cut [10] (fun s10 wx => s10 = .int .u64 (R1 : Int) ∧ w1 = wx)
    case first =>
      by_cases hcd : hf = 1 ∧ (st = true ∨ M % 2 = 1)
      · have e : R1 = M + 1 := by rw [HRB2.out, if_pos hcd]
        have hd := decide_eq_true hcd
        rw [hd]
        clear HRB2 hd hcd
        go_wp2
        go_meet
        exact ⟨by rw [e]; go_num, by trivial⟩
      · have e : R1 = M := by rw [HRB2.out, if_neg hcd, Nat.add_zero]
        have hd := decide_eq_false hcd
        rw [hd]
        clear HRB2 hd hcd
        go_wp2
        go_meet
        exact ⟨by rw [e], by trivial⟩
    case rest =>
    obtain ⟨rfl, hw⟩ := hcut
    subst hw
    clear HRB2
    obtain ⟨m2, hm2⟩ : ∃ m2, m2 = mOf V (32 * low) := ⟨_, rfl⟩
    obtain ⟨e2, he2⟩ : ∃ e2, e2 = eOf V (32 * low) := ⟨_, rfl⟩
    have HRD2 : Hid (Rounded V (32 * low) m2 e2) := by
      show Rounded V (32 * low) m2 e2
      rw [hm2, he2]
      exact HRD.out
    have HM2 : Hid (m2 = if R1 = 2 ^ 53 then 2 ^ 52 else R1) := by
      show m2 = _
      rw [hm2, HR1.out, HCC.out]
      rfl
    have HE2 : Hid (e2 = if R1 = 2 ^ 53 then c + 32 * low + 1 else c + 32 * low) := by
      show e2 = _
      rw [he2, HR1.out, HCC.out]
      rfl
    clear hm2 he2 HRD HR1 HLL
    have hm2l : m2 < 9007199254740992 := HRD2.out.lt
    have he2g : -1074 ≤ e2 := HRD2.out.ge
    have he2l : e2 ≤ c + 32 * low + 1 := by rw [HE2.out]; split <;> omega
    go_upto_if 97 with fail
    go_cut [10, 15] (fun s10 s15 wx => s10 = .int .u64 (m2 : Int) ∧ s15 = .int .i64 e2 ∧ w1 = wx)
    case first =>
      by_cases h53 : R1 = 9007199254740992
      · have a1 : m2 = 4503599627370496 := by rw [HM2.out, if_pos h53]
        have a2 : e2 = c + 32 * low + 1 := by rw [HE2.out, if_pos h53]
        have a3 : ((R1 : Int) == 9007199254740992) = true := by simp; omega
        clear HM2 HE2
        go_wp2
        go_meet
        exact ⟨by rw [a1]; rfl, by rw [a2], by trivial⟩
      · have a1 : m2 = R1 := by rw [HM2.out, if_neg h53]
        have a2 : e2 = c + 32 * low := by rw [HE2.out, if_neg h53]
        have a3 : ((R1 : Int) == 9007199254740992) = false := by simp; omega
        clear HM2 HE2
        go_wp2
        go_meet
        exact ⟨by rw [a1], by rw [a2], by trivial⟩
    case rest =>
    obtain ⟨rfl, rfl, hw⟩ := hcut
    subst hw
    clear HM2 HE2 hR1b hM53 hbh2
    go_upto_block 6 with fail
    go_cut [16, 17] (fun s16 s17 wx => s16 = .int .i64 ((m2.log2 : Int) + 1) ∧ w1 = wx)
    case first =>
      go_wp2_with fail
      go_loopw [16, 17] (fun s16 s17 wr => ∃ lb : Nat, s16 = .int .i64 lb ∧ lb ≤ 53 ∧ s17 = .int .u64 ((m2 / 2 ^ lb : Nat) : Int) ∧ w1 = wr ∧ P4 m2 lb) (fun s16 _ _ => 60 - (intOf s16).toNat)
      case atStart => exact ⟨0, rfl, by omega, by simp, rfl, ⟨Or.inl rfl⟩⟩
      case round =>
        obtain ⟨lb, rfl, hlb, rfl, hw, p4⟩ := hrel
        subst wr
        obtain ⟨t, ht⟩ : ∃ t, t = m2 / 2 ^ lb := ⟨_, rfl⟩
        rw [← ht]
        by_cases t0 : t = 0
        · have e := p4_end m2 lb HRD2.out.ne p4 (by rw [← ht]; exact t0)
          have e' : (lb : Int) = (m2.log2 : Int) + 1 := by omega
          subst t0
          clear p4 ht
          go_wp2
          go_meet
          exact ⟨by rw [e'], by trivial⟩
        · have hlb2 : lb < 53 := by
            apply Classical.byContradiction
            intro hc
            have : lb = 53 := by omega
            rw [this, Nat.div_eq_of_lt (by omega)] at ht
            exact t0 ht
          have p4' : P4 m2 (lb + 1) := ⟨Or.inr (by rw [show lb + 1 - 1 = lb by omega, ← ht]; exact t0)⟩
          obtain ⟨t', ht'⟩ : ∃ t', t' = t / 2 := ⟨_, rfl⟩
          have hd : (t : Int) / 2 = (t' : Int) := by omega
          have e2' : t' = m2 / 2 ^ (lb + 1) := by rw [ht', ht, Nat.pow_succ, Nat.div_div_eq_div_mul]
          have htl : t < 9007199254740992 := by rw [ht]; have := Nat.div_le_self m2 (2 ^ lb); omega
          have ht1 : (0 : Int) < t := by omega
          have HE := hide e2'
          clear p4 ht ht' e2'
          go_wp2
          go_roundw
          case rel => exact ⟨lb + 1, by go_num, by omega, by rw [← HE.out], by trivial, p4'⟩
          case measure => simp [intOf]; omega
    case rest =>
    obtain ⟨rfl, hw⟩ := hcut
    subst hw
    have hlg : m2.log2 ≤ 52 := log2_lt53 m2 HRD2.out.ne HRD2.out.lt
    have HMG : Hid (mg x.natAbs low = rung V (32 * low)) := by
      show mg x.natAbs low = _
      unfold mg
      rw [← HVV.out, if_neg HV0.out]
    by_cases hov : 1023 < (m2.log2 : Int) + e2
    · have out : RndOut w x low (.returned (.tuple #[.float .f64 0, .bool true])) w1 := ⟨Or.inr ⟨by rw [HMG.out]; exact HRD2.out.over.1 hov, rfl⟩, vf.kept⟩
      have OUT := hide out
      have hov2 : (1023 : Int) < (m2.log2 : Int) + 1 - 1 + e2 := by omega
      clear out
      go_wp2
      go_ret2
      exact OUT.out
    · have hcv : floatOfInt .f64 (m2 : Int) = rung m2 0 := by
        have := near_eq false m2 0 HRD2.out.ne
        rw [word_no] at this
        rw [← this]
        show Ieee.double.nearest (decide ((m2 : Int) < 0)) (m2 : Int).natAbs 0 = _
        rw [decide_eq_false (by omega)]
        rfl
      have hmul : ∀ (k : Int) (W : World), -1074 ≤ k → k < max e2 0 → (binOp .mul 26 (.float .f64 (rung m2 k)) (.float .f64 4611686018427387904)).run Tryf.prog W = .ok (.float .f64 (rung m2 (k + 1))) W := fun k W h1 h2 =>
        run_float_arith W .mul 26 .f64 _ _ _ (mul_two m2 k HRD2.out.ne HRD2.out.lt h1 (HRD2.out.fin k h1 (by omega) (by omega)))
      have hdiv : ∀ (k : Int) (W : World), -1074 ≤ k → k ≤ 0 → (binOp .quo 26 (.float .f64 (rung m2 k)) (.float .f64 4611686018427387904)).run Tryf.prog W = .ok (.float .f64 (rung m2 (k - 1))) W := fun k W h1 h2 =>
        run_float_arith W .quo 26 .f64 _ _ _ (div_two m2 k HRD2.out.ne HRD2.out.lt h1 (HRD2.out.fin k h1 (by omega) (by omega)))
      have HMU := hide hmul
      have HDI := hide hdiv
      obtain ⟨f0, hf0⟩ : ∃ f0, f0 = rung m2 0 := ⟨_, rfl⟩
      rw [← hf0] at hcv
      have HF0 := hide hf0
      clear hmul hdiv hf0
      go_upto_block 8 with fail
      go_cut [15, 18] (fun s15 s18 wx => s15 = .int .i64 (min e2 0) ∧ s18 = .float .f64 (rung m2 (max e2 0)) ∧ w1 = wx)
      case first =>
        go_wp2_with fail
        go_loopw [15, 18] (fun s15 s18 wr => ∃ k : Int, s15 = .int .i64 k ∧ k ≤ max e2 0 ∧ ((0 ≤ k ∧ 0 ≤ e2) ∨ k = e2) ∧ s18 = .float .f64 (rung m2 (max e2 0 - max k 0)) ∧ w1 = wr) (fun s15 _ _ => (intOf s15).toNat)
        case atStart => exact ⟨e2, rfl, by omega, by omega, by rw [show max e2 0 - max e2 0 = 0 by omega, ← HF0.out], rfl⟩
        case round =>
          obtain ⟨k, rfl, hk1, hk2, rfl, hw⟩ := hrel
          subst wr
          by_cases hk0 : 0 < k
          · obtain ⟨kk, hkk⟩ : ∃ kk, kk = max e2 0 - max k 0 := ⟨_, rfl⟩
            have hm := HMU.out kk w1 (by omega) (by omega)
            rw [← hkk]
            obtain ⟨fa, hfa⟩ : ∃ fa, fa = rung m2 kk := ⟨_, rfl⟩
            obtain ⟨fb, hfb⟩ : ∃ fb, fb = rung m2 (kk + 1) := ⟨_, rfl⟩
            rw [← hfa, ← hfb] at hm
            rw [← hfa]
            have HFB := hide (And.intro hfb hkk)
            clear hfa hfb hkk
            go_wp2
            go_roundw
            case rel => exact ⟨k - 1, by go_num, by omega, by omega, by rw [HFB.out.1, HFB.out.2, show max e2 0 - max (k - 1) 0 = max e2 0 - max k 0 + 1 by omega], by trivial⟩
            case measure => simp [intOf]; omega
          · have e1 : k = min e2 0 := by omega
            have e3 : max e2 0 - max k 0 = max e2 0 := by omega
            rw [e3]
            obtain ⟨fa, hfa⟩ : ∃ fa, fa = rung m2 (max e2 0) := ⟨_, rfl⟩
            rw [← hfa]
            have HFA := hide hfa
            clear hfa e3
            go_wp2
            go_meet
            exact ⟨by rw [← e1], by rw [HFA.out], by trivial⟩
      case rest =>
      obtain ⟨rfl, rfl, hw⟩ := hcut
      subst hw
      obtain ⟨k0, hk0⟩ : ∃ k0, k0 = min e2 0 := ⟨_, rfl⟩
      obtain ⟨f1, hf1⟩ : ∃ f1, f1 = rung m2 (max e2 0) := ⟨_, rfl⟩
      rw [← hk0, ← hf1]
      have hk0l : k0 ≤ 0 ∧ -1074 ≤ k0 := by omega
      have HK0 : Hid (k0 = min e2 0 ∧ f1 = rung m2 (e2 - k0)) := ⟨hk0, by rw [hf1, hk0, show e2 - min e2 0 = max e2 0 by omega]⟩
      clear hk0 hf1 HMU
      go_upto_block 10 with fail
      go_cut [15, 18] (fun s15 s18 wx => s18 = .float .f64 (rung m2 e2) ∧ w1 = wx)
      case first =>
        go_wp2_with fail
        go_loopw [15, 18] (fun s15 s18 wr => ∃ k : Int, s15 = .int .i64 k ∧ k0 ≤ k ∧ k ≤ 0 ∧ s18 = .float .f64 (rung m2 (e2 - k)) ∧ w1 = wr) (fun s15 _ _ => (-(intOf s15)).toNat)
        case atStart => exact ⟨k0, rfl, by omega, by omega, by rw [HK0.out.2], rfl⟩
        case round =>
          obtain ⟨k, rfl, hk1, hk2, rfl, hw⟩ := hrel
          subst wr
          by_cases hkk0 : k < 0
          · obtain ⟨kk, hkk⟩ : ∃ kk, kk = e2 - k := ⟨_, rfl⟩
            have hm := HDI.out kk w1 (by omega) (by have := HK0.out.1; omega)
            rw [← hkk]
            obtain ⟨fa, hfa⟩ : ∃ fa, fa = rung m2 kk := ⟨_, rfl⟩
            obtain ⟨fb, hfb⟩ : ∃ fb, fb = rung m2 (kk - 1) := ⟨_, rfl⟩
            rw [← hfa, ← hfb] at hm
            rw [← hfa]
            have HFB := hide (And.intro hfb hkk)
            clear hfa hfb hkk
            go_wp2
            go_roundw
            case rel => exact ⟨k + 1, by go_num, by omega, by omega, by rw [HFB.out.1, HFB.out.2, show e2 - (k + 1) = e2 - k - 1 by omega], by trivial⟩
            case measure => simp [intOf]; omega
          · have e1 : k = 0 := by omega
            subst e1
            rw [show e2 - 0 = e2 by omega]
            obtain ⟨fa, hfa⟩ : ∃ fa, fa = rung m2 e2 := ⟨_, rfl⟩
            rw [← hfa]
            have HFA := hide hfa
            clear hfa
            go_wp2
            go_meet
            exact ⟨by rw [HFA.out], by trivial⟩
      case rest =>
      obtain ⟨rfl, hw⟩ := hcut
      subst hw
      obtain ⟨f2, hf2⟩ : ∃ f2, f2 = rung m2 e2 := ⟨_, rfl⟩
      rw [← hf2]
      have hf2m : f2 = mg x.natAbs low := by rw [hf2, HRD2.out.eq, HMG.out]
      have hne : mg x.natAbs low ≠ 2047 * 2 ^ 52 := by
        rw [HMG.out]
        exact fun h => hov (HRD2.out.over.2 h)
      have hle := mg_le x.natAbs low
      have hout : ∀ y, y = fl x low → RndOut w x low (.returned (.tuple #[.float .f64 y, .bool false])) w1 := fun y hy => ⟨Or.inl ⟨hne, by rw [hy]⟩, vf.kept⟩
      have HOUT := hide hout
      rw [← hf2m] at hle
      have HF2 := hide hf2m
      clear hout hf2 hf2m hne HRD2 HDI HK0
      cases ng
      · have hfl : f2 = fl x low := by rw [fl_word, ← HNG.out, ← HF2.out, word_no]
        have HFL := hide hfl
        clear hfl
        go_wp2
        go_ret2
        exact HOUT.out f2 HFL.out
      · have hnb := neg_bits f2 false (by omega)
        rw [word_no, Bool.not_false] at hnb
        have hfl : Ieee.double.word true f2 = fl x low := by rw [fl_word, ← HNG.out, ← HF2.out]
        obtain ⟨f3, hf3⟩ : ∃ f3, f3 = Ieee.double.word true f2 := ⟨_, rfl⟩
        rw [← hf3] at hnb hfl
        have hneg := neg_word f2 f3 hnb
        have HFL := hide hfl
        clear hfl hnb hf3
        go_wp2
        go_ret2
        exact HOUT.out f3 HFL.out

end Fl
end Go.Proofs.Qxb6615471aFmt
