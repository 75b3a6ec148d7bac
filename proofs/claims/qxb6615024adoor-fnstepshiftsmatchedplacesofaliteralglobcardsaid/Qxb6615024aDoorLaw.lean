/-
  THE WALK of the law.
-/
import Derived.Test.Qxb6615024aDoorLawD
namespace Go.Proofs.Qxb6615024aDoor
open Go.RowKit
set_option linter.unusedVariables false
namespace Gl

/-- what the law's callee reads: a slice of words with an element -/
def LawArgs (a0 : Option Addr) (m c0 b1 o1 n c1 b4 o4 c4 b7 o7 c7 : Nat) (F l F2 l2 c : Int) : Array Value :=
  #[.slice a0 m c0, .slice (some ⟨b1, o1, none⟩) n c1, .int .i64 F, .int .i64 l, .slice (some ⟨b4, o4, none⟩) n c4, .int .i64 F2, .int .i64 l2, .slice (some ⟨b7, o7, none⟩) n c7, .int .i32 c]

set_option maxHeartbeats 400000000 in
set_option maxRecDepth 100000 in
theorem law_core (a0 : Option Addr) (m c0 b1 o1 n c1 b4 o4 c4 b7 o7 c7 : Nat) (F l F2 l2 c : Int) (zs zn zx zm : List Int) (w : World)
    (hm : m ≤ 4096) (hn : n = m / 64 + 1) (hzs : zs.length = m) (hnil : a0 = none → m = 0 ∧ c0 = 0) (hc0 : 0 < m → ∃ b off, a0 = some ⟨b, off, none⟩ ∧ b < w.heap.size ∧ Cl w .i32 b off zs)
    (hzn : zn.length = n) (hwn : WF zn) (hcn : Cl w .u64 b1 o1 zn) (hbn : b1 < w.heap.size)
    (hzx : zx.length = n) (hwx : WF zx) (hcx : Cl w .u64 b4 o4 zx) (hbx : b4 < w.heap.size)
    (hzm : zm.length = n) (hwm : WF zm) (hcm : Cl w .u64 b7 o7 zm) (hbm : b7 < w.heap.size) :
    Calls Tryd.prog 4 #[.slice a0 m c0, .slice (some ⟨b1, o1, none⟩) n c1, .int .i64 F, .int .i64 l, .slice (some ⟨b4, o4, none⟩) n c4, .int .i64 F2, .int .i64 l2, .slice (some ⟨b7, o7, none⟩) n c7, .int .i32 c] w fun e w' => e = .returned (.bool true) ∧ Kept w w' [] := by
  have hm' : ¬ (4096 : Int) < m := by omega
  have hn' : ¬ (4096 : Int) < n := by omega
  have hW : ((m : Int) + 1 + 63) / 64 = (n : Int) := by omega
  have HN := hide hn
  have HP := hide hnil
  have HC0 := hide hc0
  clear hn hnil hc0
  go_enter Tryd.func4, Tryd.ntmps4
  go_wp2_with fail
  refine (bytes_any a0 _ _ _ m c0 n c1 n c4 n c7 F l F2 l2 c w).mono ?_
  rintro e w' ⟨⟨t, rfl⟩, hw⟩
  subst w'
  cases t
  · go_wp2
    go_ret
    exact ⟨rfl, Kept.refl _ _⟩
  go_upto_region 9 with fail
  rw [hW]
  have h4 : n ≤ 4096 := by omega
  have h64 : m + 1 ≤ 64 * n := by have := HN.out; omega
  clear hm' hn' hW
  go_wp2_with fail
  refine (inr_any b1 o1 c1 n F l zn w hzn h4 hcn).mono ?_
  rintro e w' ⟨⟨t, rfl, ht⟩, hw⟩
  subst w'
  cases t
  · go_wp2
    go_ret
    exact ⟨rfl, Kept.refl _ _⟩
  have HI := hide (ht rfl)
  clear ht
  go_wp2_with fail
  refine (inr_any b4 o4 c4 n F2 l2 zx w hzx h4 hcx).mono ?_
  rintro e w' ⟨⟨t, rfl, ht⟩, hw⟩
  subst w'
  cases t
  · go_wp2
    go_ret
    exact ⟨rfl, Kept.refl _ _⟩
  have HI2 := hide (ht rfl)
  clear ht
  go_upto_block 0 with fail
  go_cut [21] (fun s21 wx => w = wx)
  case first =>
    as_aux_lemma =>
      clear HI HI2 HC0 HP HN
      go_wp2_with fail
      go_loopw [21] (fun s21 wr => ∃ k : Nat, s21 = .int .i64 k ∧ k ≤ 64 * n ∧ w = wr) (fun s21 _ => 64 * n - (intOf s21).toNat)
      case atStart => exact ⟨m + 1, by go_num, h64, rfl⟩
      case round =>
        obtain ⟨k, rfl, hk, hw⟩ := hrel
        subst wr
        by_cases hlt : (k : Int) < 64 * n
        · have hk' : k < 64 * n := by omega
          go_wp2_with fail
          refine (zhas_any b1 o1 n c1 k zn w hcn hzn hwn hk' h4).mono ?_
          rintro e w' ⟨rfl, hw⟩
          subst w'
          cases bo zn k
          · go_wp2
            go_roundw
            case rel => exact ⟨k + 1, by go_num, by omega, by trivial⟩
            case measure => simp [intOf]; omega
          · go_wp2
            go_ret
            exact ⟨rfl, Kept.refl _ _⟩
        · go_wp2
          go_meet
          rfl
  case rest =>
  subst hcut
  have hmk := make_run 29 30 .u64 8 Tryd.underlying29 Tryd.info30 (by decide) n (by omega)
  go_upto_region 17 with fail
  refine (cloneR_any a0 m c0 zs w hm hzs HP.out HC0.out).mono ?_
  rintro e w1 ⟨a', rfl, p1, k1, ha1⟩
  have s1 := k1.size
  go_upto_region 18 with fail
  refine (cloneW_any b1 o1 c1 n zn w1 hzn h4 (hcn.kept k1 hbn (by simp)) (by omega)).mono ?_
  rintro e w2 ⟨rfl, r2, k2⟩
  have s2 := k2.size
  go_upto_region 19 with fail
  refine (cloneW_any b4 o4 c4 n zx w2 hzx h4 ((hcx.kept k1 hbx (by simp)).kept k2 (by omega) (by simp)) (by omega)).mono ?_
  rintro e w3 ⟨rfl, r3, k3⟩
  have s3 := k3.size
  go_upto_region 20 with fail
  refine (cloneW_any b7 o7 c7 n zm w3 hzm h4 (((hcm.kept k1 hbm (by simp)).kept k2 (by omega) (by simp)).kept k3 (by omega) (by simp)) (by omega)).mono ?_
  rintro e w4 ⟨rfl, r4, k4⟩
  have s4 := k4.size
  go_wp2_with fail
  obtain ⟨w5, hw5⟩ : ∃ w5, w5 = w4.alloc (.cells (madeCells #[Value.int .u64 0] n) 30) := ⟨_, rfl⟩
  have k5 : Kept w4 w5 [] := by rw [hw5]; exact (Kept.refl _ _).alloc _
  have r5 : Row w5 .u64 30 w4.heap.size n (List.replicate n 0) := by rw [hw5]; exact Row.made w4 .u64 30 n
  have s5 : w5.heap.size = w4.heap.size + 1 := by rw [hw5]; simp
  rw [← hw5]
  clear hw5 hmk
  refine (cloneW_any w3.heap.size 0 n n zm w5 hzm h4 ((r4.kept k5 (by simp)).cl) (by have := r4.lt; omega)).mono ?_
  rintro e w6 ⟨rfl, r6, k6⟩
  have s6 := k6.size
  have k36 : Kept w3 w6 [] := ((k4.trans k5).trans k6)
  have k26 : Kept w2 w6 [] := k3.trans k36
  have k16 : Kept w1 w6 [] := k2.trans k26
  have st : St w a' m n zs zn zx zm w1.heap.size w2.heap.size w3.heap.size w4.heap.size w5.heap.size (List.replicate n 0) zm w6 :=
    ⟨p1.kept k16, r2.kept k26 (by simp), r3.kept k36 (by simp), (r4.kept k5 (by simp)).kept k6 (by simp), r5.kept k6 (by simp), r6, by simp, hzm, wf_rep _, hwm, k1.trans k16⟩
  have fx : Fx w a' m n zs zn zx zm w1.heap.size w2.heap.size w3.heap.size w4.heap.size w5.heap.size := by
    refine ⟨hm, HN.out, h4, h64, hzs, hzn, hwn, hzx, hwx, hzm, hwm, ?_, ?_, ?_, ?_, ?_, ?_⟩
    · have := r2.lt; omega
    · have := r3.lt; omega
    · have := r4.lt; omega
    · omega
    · omega
    · intro h0 b hb
      refine ⟨?_, ha1 b hb⟩
      obtain ⟨_, e0 | ⟨b', e', hr'⟩⟩ := p1
      · omega
      · have eb : b = b' := by rw [hb] at e'; simpa using e'
        rw [eb]
        exact hr'.lt
  obtain ⟨F', rfl⟩ := Int.eq_ofNat_of_zero_le HI.out.1
  obtain ⟨F2', rfl⟩ := Int.eq_ofNat_of_zero_le HI2.out.1
  generalize w1.heap.size = nm at *
  generalize w2.heap.size = xm at *
  generalize w3.heap.size = mm at *
  generalize w4.heap.size = nb at *
  generalize w5.heap.size = mb at *
  clear k1 k2 k3 k4 k5 k6 k36 k26 k16 s1 s2 s3 s4 s5 s6 r2 r3 r4 r5 r6 p1 ha1 hcn hcx hcm hbn hbx hbm HP HC0 HN h64 hzn hwn hzx hwx hzm hwm w1 w2 w3 w4 w5
  go_upto_block 2 with fail
  go_cut [24] (fun s24 wx => ∃ wm, St w a' m n zs zn zx zm nm xm mm nb mb (List.replicate n 0) wm wx ∧ Hid (WM zs zn zm c F' l 0 wm))
  case first =>
    as_aux_lemma =>
      have hI := HI.out
      have hl0 := hI.2.2.1
      have hl1 := hI.2.2.2.1
      have hF1 := hI.2.1
      clear HI HI2 hI
      go_wp2_with fail
      go_loopw [24] (fun s24 wr => ∃ (k : Nat) (wm : List Int), F' ≤ k ∧ (k : Int) ≤ max (F' : Int) (l + 1) ∧ s24 = .int .i64 k ∧ St w a' m n zs zn zx zm nm xm mm nb mb (List.replicate n 0) wm wr ∧
          Hid (∀ q, bo wm q = (bo zm q && !decide (F' ≤ q / 64 ∧ q / 64 < k)))) (fun s24 _ => n + 1 - (intOf s24).toNat)
      case atStart => exact ⟨F', zm, Nat.le_refl _, by omega, rfl, st, zr_start F' zm⟩
      case round =>
        obtain ⟨k, wm, hk0, hk1, rfl, sk, HB⟩ := hrel
        clear st
        by_cases hlt : (k : Int) ≤ l
        · have hkn : (k : Int) < (n : Int) := by omega
          have hk0' : (0 : Int) ≤ (k : Int) := by omega
          have e3 := sk.rwm.cell k (by rw [sk.lwm]; omega)
          have e4 := sk.rwm.frozen k
          generalize wm.getD k 0 = y at *
          have s' := sk.setM fx k (by omega) 0 (by decide) (by decide)
          have hlm := sk.lwm
          clear sk
          go_wp2
          go_roundw
          case rel =>
            refine ⟨k + 1, wm.set k 0, by omega, by omega, by go_num, s', ?_⟩
            exact zr_step F' k wm zm hk0 (by omega) HB.out
          case measure => simp [intOf]; omega
        · have HW : Hid (WM zs zn zm c F' l 0 wm) := wm_start zs zn zm wm c F' k l HB.out (fun q => by omega)
          clear HB
          go_wp2
          go_meet
          exact ⟨wm, sk, HW⟩
  case rest =>
  obtain ⟨wm, st1, HW⟩ := hcut
  clear st
  go_upto_block 4 with fail
  go_cut [25] (fun s25 wx => ∃ wn wm, St w a' m n zs zn zx zm nm xm mm nb mb wn wm wx ∧ Hid (WM zs zn zm c F' l m wm ∧ WN zs zn c m wn))
  case first =>
    as_aux_lemma =>
      clear HI HI2
      go_wp2_with fail
      go_loopw [25] (fun s25 wr => ∃ (k : Nat) (wn wm : List Int), k ≤ m ∧ s25 = .int .i64 k ∧ St w a' m n zs zn zx zm nm xm mm nb mb wn wm wr ∧ Hid (WM zs zn zm c F' l k wm ∧ WN zs zn c k wn)) (fun s25 _ => m - (intOf s25).toNat)
      case atStart => exact ⟨0, List.replicate n 0, wm, Nat.zero_le _, rfl, st1, HW.out, wn_start zs zn c n⟩
      case round =>
        obtain ⟨k, wn, wm, hk, rfl, sk, HK⟩ := hrel
        clear st1 HW
        by_cases hlt : (k : Int) < m
        · have hkm : k < m := by omega
          obtain ⟨b, rfl, hb, hcp⟩ := ps_idx sk.pat k hkm
          obtain ⟨y, hy⟩ : ∃ y, y = zs.getD k 0 := ⟨_, rfl⟩
          rw [← hy] at hcp
          have hk0 : (0 : Int) ≤ (k : Int) := by omega
          have HY := hide hy
          clear hy
          cases hyc : (y == c)
          · go_wp2
            go_roundw
            case rel =>
              have hno : ¬ Hp zs zn c k := fun h => by
                have h2 := h.2.1
                rw [← HY.out] at h2
                simp [h2] at hyc
              exact ⟨k + 1, wn, wm, by omega, by go_num, sk, wm_no HK.out.1 hno, wn_no HK.out.2 hno⟩
            case measure => simp [intOf]; omega
          · have hk64 : k < 64 * n := by have := fx.h64; omega
            go_wp2_with fail
            refine (zhas_any nm 0 n n k zn _ sk.rn.cl fx.lzn fx.wzn hk64 fx.n4).mono ?_
            rintro e w' ⟨rfl, hw⟩
            subst w'
            cases hbk : bo zn k
            · go_wp2
              go_roundw
              case rel =>
                have hno : ¬ Hp zs zn c k := fun h => by
                  have h2 := h.2.2
                  rw [hbk] at h2
                  exact absurd h2 (by simp)
                exact ⟨k + 1, wn, wm, by omega, by go_num, sk, wm_no HK.out.1 hno, wn_no HK.out.2 hno⟩
              case measure => simp [intOf]; omega
            · have hyes : Hp zs zn c k := ⟨by rw [fx.lzs]; exact hkm, by rw [← HY.out]; simpa using hyc, hbk⟩
              have n4 := fx.n4
              have h64 := fx.h64
              obtain ⟨X1, hX1⟩ := Int.eq_ofNat_of_zero_le (wf_getD sk.wwm (k / 64)).1
              have bX1 := (wf_getD sk.wwm (k / 64)).2
              have cM := sk.rwm.cell (k / 64) (by rw [sk.lwm]; omega)
              have fM := sk.rwm.frozen (k / 64)
              rw [hX1] at cM bX1
              have hj := and63_u64 k (by omega)
              have hs := shl_eq (k % 64) (by omega)
              have ho := orpow X1 (k % 64) (by omega) (by omega)
              have hq0 : (0 : Int) ≤ (k : Int) / 64 := by omega
              have hq1 : (k : Int) / 64 < (n : Int) := by omega
              have s' := sk.setM fx (k / 64) (by omega) ((X1 ||| 2 ^ (k % 64) : Nat) : Int) (by omega) (by have := or_lt X1 (k % 64) (by omega) (by omega); omega)
              have HM : Hid (WM zs zn zm c F' l (k + 1) (wm.set (k / 64) ((X1 ||| 2 ^ (k % 64) : Nat) : Int))) := by
                have e : wm.set (k / 64) ((X1 ||| 2 ^ (k % 64) : Nat) : Int) = sb wm k := by unfold sb; rw [hX1]; rfl
                rw [e]
                exact wm_yes HK.out.1 (by rw [sk.lwm]; omega) hyes
              have HKN := hide HK.out.2
              have HYE := hide hyes
              clear sk HK HY hX1 hyes
              generalize (X1 ||| 2 ^ (k % 64)) = z1 at *
              generalize 2 ^ (k % 64) = y1 at *
              generalize k % 64 = j1 at *
              go_upto_region 31 with fail
              generalize wr.setCell ⟨mb, k / 64, none⟩ (.int .u64 z1) = W2 at *
              generalize wm.set (k / 64) (z1 : Int) = wm2 at *
              clear cM fM hj hs ho hq0 hq1 bX1
              obtain ⟨K, hK⟩ : ∃ K : Nat, K = k + 1 := ⟨_, rfl⟩
              have hKw : IntKind.i64.wrap ((k : Int) + 1) = (K : Int) := by rw [wrap64_small _ (by omega) (by omega), hK]; rfl
              obtain ⟨X2, hX2⟩ := Int.eq_ofNat_of_zero_le (wf_getD s'.wwn (K / 64)).1
              have bX2 := (wf_getD s'.wwn (K / 64)).2
              have cN := s'.rwn.cell (K / 64) (by rw [s'.lwn]; omega)
              have fN := s'.rwn.frozen (K / 64)
              rw [hX2] at cN bX2
              have hj := and63_u64 K (by omega)
              have hs := shl_eq (K % 64) (by omega)
              have ho := orpow X2 (K % 64) (by omega) (by omega)
              have hq0 : (0 : Int) ≤ (K : Int) / 64 := by omega
              have hq1 : (K : Int) / 64 < (n : Int) := by omega
              have s'' := s'.setN fx (K / 64) (by omega) ((X2 ||| 2 ^ (K % 64) : Nat) : Int) (by omega) (by have := or_lt X2 (K % 64) (by omega) (by omega); omega)
              have HNN : Hid (WN zs zn c K (wn.set (K / 64) ((X2 ||| 2 ^ (K % 64) : Nat) : Int))) := by
                have e : wn.set (K / 64) ((X2 ||| 2 ^ (K % 64) : Nat) : Int) = sb wn K := by unfold sb; rw [hX2]; rfl
                rw [e, hK]
                exact wn_yes HKN.out (by rw [s'.lwn, ← hK]; omega) HYE.out
              have HKK := hide hK
              have hKm : K ≤ m := by omega
              have hkK : k < K := by omega
              clear s' HKN HYE hX2 hK
              generalize (X2 ||| 2 ^ (K % 64)) = z2 at *
              generalize 2 ^ (K % 64) = y2 at *
              generalize K % 64 = j2 at *
              go_wp2
              go_roundw
              case rel => exact ⟨K, wn.set (K / 64) (z2 : Int), wm2, hKm, by first | rfl | (rw [hKw]), s'', by rw [HKK.out]; exact HM.out, HNN.out⟩
              case measure => simp [intOf]; omega
        · have ek : k = m := by omega
          subst ek
          go_wp2
          go_meet
          exact ⟨wn, wm, sk, HK⟩
  case rest =>
  obtain ⟨wn, wm, st2, HK⟩ := hcut
  clear st1 HW
  go_upto_block 6 with fail
  go_cut [26, 27, 28] (fun s26 s27 s28 wx => ∃ lo hi : Int, s26 = .int .i64 lo ∧ s27 = .int .i64 hi ∧ wc = wx ∧ Hid (LH wn n lo hi) ∧ -1 ≤ lo ∧ lo < n)
  case first =>
    as_aux_lemma =>
      clear HI HI2 HK
      go_wp2_with fail
      go_loopw [26, 27, 28] (fun s26 s27 s28 wr => ∃ (k : Nat) (lo hi : Int), k ≤ n ∧ s28 = .int .i64 k ∧ s26 = .int .i64 lo ∧ s27 = .int .i64 hi ∧ wc = wr ∧ Hid (LH wn k lo hi) ∧ -1 ≤ lo ∧ lo < n) (fun _ _ s28 _ => n - (intOf s28).toNat)
      case atStart => exact ⟨0, -1, -1, Nat.zero_le _, rfl, rfl, rfl, rfl, lh_start wn, by omega, by omega⟩
      case round =>
        obtain ⟨k, lo, hi, hk, rfl, rfl, rfl, hw, HL, hlo, hlo2⟩ := hrel
        subst wr
        by_cases hlt : (k : Int) < n
        · have hk0 : (0 : Int) ≤ (k : Int) := by omega
          have cN := st2.rwn.cell k (by rw [st2.lwn]; omega)
          obtain ⟨y, hy⟩ : ∃ y, y = wn.getD k 0 := ⟨_, rfl⟩
          rw [← hy] at cN
          by_cases y0 : y = 0
          · have HLL : Hid (LH wn (k + 1) lo hi) := lh_zero HL.out (by rw [← hy]; exact y0)
            clear HL hy st2
            subst y0
            go_wp2
            go_roundw
            case rel => exact ⟨k + 1, lo, hi, by omega, by go_num, rfl, rfl, by trivial, HLL.out, hlo, hlo2⟩
            case measure => simp [intOf]; omega
          · have y0' : (y != 0) = true := by simpa using y0
            by_cases l0 : lo < 0
            · have HLL : Hid (LH wn (k + 1) k k) := lh_first HL.out (by rw [← hy]; exact y0) l0
              clear HL hy st2
              go_wp2
              go_roundw
              case rel => exact ⟨k + 1, k, k, by omega, by go_num, rfl, rfl, by trivial, HLL.out, by omega, by omega⟩
              case measure => simp [intOf]; omega
            · have HLL : Hid (LH wn (k + 1) lo k) := lh_more HL.out (by rw [← hy]; exact y0) l0
              clear HL hy st2
              go_wp2
              go_roundw
              case rel => exact ⟨k + 1, lo, k, by omega, by go_num, rfl, rfl, by trivial, HLL.out, by omega, by omega⟩
              case measure => simp [intOf]; omega
        · have ek : k = n := by omega
          subst ek
          go_wp2
          go_meet
          exact ⟨lo, hi, rfl, rfl, by trivial, HL, hlo, hlo2⟩
  case rest =>
  obtain ⟨lo, hi, rfl, rfl, hw, HL, hlo, hlo2⟩ := hcut
  subst hw
  have hl0 : -1 ≤ l := HI.out.2.2.1
  have hl1 : l < n := HI.out.2.2.2.1
  have hF1 : (F' : Int) ≤ n := HI.out.2.1
  have n4 := fx.n4
  have hhi : -1 ≤ hi ∧ hi < n := by
    rcases HL.out with ⟨a, b, d⟩ | ⟨a, b, d, _⟩
    · omega
    · omega
  obtain ⟨hhi0, hhi1⟩ := hhi
  go_upto_if 192 with fail
  go_cut [29, 30] (fun s29 s30 wx => ∃ wf wl : Int, s29 = .int .i64 wf ∧ s30 = .int .i64 wl ∧ wc = wx ∧ Hid ((0 ≤ lo ∧ wf = lo ∧ wl = hi) ∨ (lo < 0 ∧ wl = l ∧ wf = max (l + 1) (F' : Int))) ∧ -1 ≤ wl ∧ wl < n)
  case first =>
    as_aux_lemma =>
      clear HI HI2 HK HL fx st2
      by_cases l0 : lo < 0
      · by_cases l2 : l + 1 < (F' : Int)
        · go_wp2
          go_meet
          exact ⟨_, _, rfl, rfl, by trivial, Or.inr ⟨l0, rfl, by omega⟩, hl0, hl1⟩
        · go_wp2
          go_meet
          exact ⟨_, _, rfl, rfl, by trivial, Or.inr ⟨l0, rfl, by omega⟩, hl0, hl1⟩
      · go_wp2
        go_meet
        exact ⟨_, _, rfl, rfl, by trivial, Or.inl ⟨by omega, rfl, rfl⟩, hhi0, hhi1⟩
  case rest =>
  obtain ⟨wf, wl, rfl, rfl, hw, HF, hwl0, hwl1⟩ := hcut
  subst hw
  have hF0 : (0 : Int) ≤ (F' : Int) := by omega
  go_upto_region 47 with fail
  have HFF := hide (And.intro hl0 (And.intro hl1 (And.intro hF1 (And.intro hlo (And.intro hlo2 (And.intro hwl0 hwl1))))))
  clear hl0 hl1 hF1 hlo hlo2 hhi0 hhi1 hwl0 hwl1 hF0
  go_upto_region 48 with fail
  have hwx1 : xm < wc.heap.size ∧ mm < wc.heap.size := ⟨st2.rx.lt, st2.rm.lt⟩
  refine (chars_any a' m zs wc hm st2.pat).mono ?_
  rintro e v1 ⟨cs, rfl, rc, kc, asc, has, lc⟩
  have st3 := st2.keep kc
  have s1 := kc.size
  have HCS := hide (And.intro asc has)
  clear st2 asc has
  have lc4 : cs.length ≤ 4096 := by omega
  go_upto_region 49 with fail
  refine (places_any a' m wc.heap.size m zs cs v1 hm st3.pat rc lc4).mono ?_
  rintro e v2 ⟨rfl, kp, vs, vr, vl, hpl⟩
  have st4 := st3.keep kp
  have s2 := kp.size
  clear st3
  have hmk := make_run 29 30 .u64 8 Tryd.underlying29 Tryd.info30 (by decide) n (by omega)
  go_upto_region 49 with fail
  go_cut [34] (fun s34 wx => Progd v2 xm mm n wc.heap.size zs cs s34 wx)
  case first =>
    focus
      have hcall : ∀ (u : World) (p1 p2 p3 : Nat), Kept (((v2.alloc (.cells (madeCells #[Value.int .u64 0] n) 30)).alloc (.cells (madeCells #[Value.int .u64 0] n) 30)).alloc (.cells (madeCells #[Value.int .u64 0] n) 30)) u [] →
          Hid (v2.heap.size ≤ p1 ∧ p1 < v2.heap.size + 3) → Hid (v2.heap.size ≤ p2 ∧ p2 < v2.heap.size + 3) → Hid (v2.heap.size ≤ p3 ∧ p3 < v2.heap.size + 3) →
          Calls Tryd.prog 9 #[.int .i64 n, .slice (some ⟨p1, 0, none⟩) n n, .slice (some ⟨p2, 0, none⟩) n n, .slice (some ⟨p3, 0, none⟩) n n, .slice (some ⟨wc.heap.size, 0, none⟩) cs.length m, .slice (some ⟨v1.heap.size, 0, none⟩) cs.length cs.length] u
            fun e u' => ∃ val, e = .returned val ∧ Progd v2 xm mm n wc.heap.size zs cs val u' := by
        rintro u p1 p2 p3 ku ⟨a1, b1⟩ ⟨a2, b2⟩ ⟨a3, b3⟩
        have l1 := rc.lt
        have lx := hwx1
        have ls := fx.lzs
        rw [← ls]
        exact newp_pg v2 u n p1 p2 p3 wc.heap.size v1.heap.size xm mm v1.heap.size zs cs vs ((three v2 n p1 a1 b1).kept ku (by simp)) ((three v2 n p2 a2 b2).kept ku (by simp)) ((three v2 n p3 a3 b3).kept ku (by simp))
          (((((Kept.refl v2 []).alloc _).alloc _).alloc _).trans ku) a1 a2 a3 (by rw [ls]; exact rc.kept kp (by simp)) lx.1 lx.2 vr vl (by rw [ls]; exact hpl) (by have := lx.1; omega) (by have := lx.2; omega) HCS.out.1 lc4 (by rw [ls]; exact fx.h64) (by rw [ls]; exact hm)
      clear HI HI2 HK HL HF HFF fx st4 HCS rc kc kp vr vl hpl hwx1
      have q0 : Hid (v2.heap.size ≤ v2.heap.size ∧ v2.heap.size < v2.heap.size + 3) := ⟨by omega, by omega⟩
      have q1 : Hid (v2.heap.size ≤ v2.heap.size + 1 ∧ v2.heap.size + 1 < v2.heap.size + 3) := ⟨by omega, by omega⟩
      have q2 : Hid (v2.heap.size ≤ v2.heap.size + 1 + 1 ∧ v2.heap.size + 1 + 1 < v2.heap.size + 3) := ⟨by omega, by omega⟩
      go_region_with (go_at_call 9; refine Calls.mono (hcall _ _ _ _ ?_ ?_ ?_ ?_) ?_; (first | exact Kept.refl _ _ | exact (Kept.refl _ _).drew | exact (Kept.refl _ _).drew.drew | exact (Kept.refl _ _).drew.drew.drew); (first | exact q0 | exact q1 | exact q2); (first | exact q0 | exact q1 | exact q2); (first | exact q0 | exact q1 | exact q2); rintro e u' ⟨val, rfl, hv⟩)
      all_goals
        as_aux_lemma =>
          go_wp2_with fail
          go_meet
          exact hv
  case rest =>
  as_aux_lemma =>
    obtain ⟨g, p1, p2, p3, ip, rfl, pg, kg⟩ := hcut
    have st5 := st4.keep kg
    clear st4 hmk hpl vr vl kg rc kc kp hwx1 s1 s2
    go_upto_region 51 with fail
    refine (newSet_any nm n F' l wc).mono ?_
    rintro e u1 ⟨rfl, sn1, kn1⟩
    have st6 := st5.keep kn1
    have hx1 : mb < wc.heap.size ∧ wc.heap.size < u1.heap.size := ⟨st5.rwm.lt, sn1.lt⟩
    have pg1 := (pg.kept (kn1.mono (by simp))).widen u1.heap.size (Nat.le_refl _)
    clear st5 pg kn1
    generalize wc.heap.size = ns at *
    go_upto_region 52 with fail
    refine (newSet_any xm n F2' l2 u1).mono ?_
    rintro e u2 ⟨rfl, sx2, kn2⟩
    have st7 := st6.keep kn2
    have pg2 := pg1.kept (kn2.mono (by simp))
    have sn2 := sn1.kept kn2 (by simp)
    generalize u1.heap.size = xs at *
    have HC := hide (law_step w u2 a' m n zs zn zx zm wn wm cs nm xm mm nb mb ns xs g p1 p2 p3 _ _ ip _ F' F2' l l2 c lo hi wf wl fx st7 pg2 sn2 sx2 HI.out HI2.out HK.out HL.out HF.out HCS.out.2 hx1.1 hx1.2)
    clear st6 st7 pg1 pg2 sn1 sn2 sx2 kn2 fx HI HI2 HK HL HF HCS HFF
    go_upto_region 53 with fail
    refine HC.out.mono ?_
    rintro e u3 ⟨rfl, en⟩
    clear HC
    go_upto_region 54 with fail
    refine (mask_any xs xm n wf wl u3 en.sx).mono ?_
    rintro e u4 ⟨rfl, hu4⟩
    subst hu4
    go_upto_block 8 with fail
    go_cut [39] (fun s39 wx => En w n xs xm mm nb mb wf wl wn wm wx)
    case first =>
      as_aux_lemma =>
        go_wp2_with fail
        go_loopw [39] (fun s39 wr => ∃ k : Nat, s39 = .int .i64 k ∧ k ≤ n ∧ En w n xs xm mm nb mb wf wl wn wm wr) (fun s39 _ => n - (intOf s39).toNat)
        case atStart => exact ⟨0, rfl, Nat.zero_le _, en⟩
        case round =>
          obtain ⟨k, rfl, hk, ek⟩ := hrel
          clear en
          by_cases hlt : (k : Int) < n
          · have hk0 : (0 : Int) ≤ (k : Int) := by omega
            have c1 := ek.rx.cell k (by rw [ek.lwn]; omega)
            have c2 := ek.rwn.cell k (by rw [ek.lwn]; omega)
            have c3 := ek.rm.cell k (by rw [ek.lwm]; omega)
            have c4 := ek.rwm.cell k (by rw [ek.lwm]; omega)
            generalize wn.getD k 0 = y1 at *
            generalize wm.getD k 0 = y2 at *
            have hy1 : (y1 != y1) = false := by simp
            have hy2 : (y2 != y2) = false := by simp
            go_wp2_with fail
            go_quiet (fail)
            go_wp2
            go_roundw
            case rel => exact ⟨k + 1, by go_num, by omega, ek.drewN _⟩
            case measure => simp [intOf]; omega
          · go_wp2
            go_meet
            exact ek
    case rest =>
    clear en
    go_wp2_with fail
    refine (first_any xs xm n wf wl wc hcut.sx).mono ?_
    rintro e u5 ⟨rfl, hu5⟩
    subst hu5
    have hy1 : (wf == wf) = true := by simp
    have hy2 : (wl == wl) = true := by simp
    go_wp2_with fail
    refine (last_any xs xm n wf wl u5 hcut.sx).mono ?_
    rintro e u6 ⟨rfl, hu6⟩
    subst hu6
    generalize (wl - (F' : Int) + 1) = r1 at *
    have hy3 : (r1 == r1) = true := by simp
    go_wp2
    go_ret
    exact ⟨rfl, hcut.kept⟩

end Gl
end Go.Proofs.Qxb6615024aDoor
