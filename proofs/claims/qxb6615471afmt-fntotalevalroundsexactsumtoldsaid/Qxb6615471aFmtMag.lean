/-
  THE WALK of magnitude.
-/
import Derived.Test.Qxb6615471aFmtLib
import Derived.Test.Qxb6615471aFmtLen
import Derived.Test.Qxb6615471aFmtDig
import Derived.LoopTactic
import Derived.Deep.CutBlock
import Derived.Deep.DeepCutAuto
namespace Go.Proofs.Qxb6615471aFmt
open Go.RowKit
set_option linter.unusedVariables false
namespace Fl

theorem hide {p : Prop} (h : p) : Hid p := h

/-- a tally at block T: its sum's digits lie in block D -/
def SumAt (w : World) (T D n cap : Nat) (low mi ot : Int) : Prop := w.heap[T]? = some (.cells #[.slice (some ⟨D, 0, none⟩) n cap, .int .i64 low, .int .i64 mi, .int .i64 ot] 49 (0, 0))

section
variable {w w' : World} {T D n cap : Nat} {low mi ot : Int}
theorem SumAt.lt (h : SumAt w T D n cap low mi ot) : T < w.heap.size := (Array.getElem?_eq_some_iff.1 h).1
theorem SumAt.of_block (h : SumAt w T D n cap low mi ot) (e : w'.heap[T]? = w.heap[T]?) : SumAt w' T D n cap low mi ot := e.trans h
theorem SumAt.kept {S : List Nat} (h : SumAt w T D n cap low mi ot) (hk : Kept w w' S) (hn : T ∉ S) : SumAt w' T D n cap low mi ot := h.of_block (hk.block T h.lt hn)
theorem SumAt.alloc (h : SumAt w T D n cap low mi ot) (o : Obj) : SumAt (w.alloc o) T D n cap low mi ot := h.kept ((Kept.refl w []).alloc o) (by simp)
theorem SumAt.c0 (h : SumAt w T D n cap low mi ot) : w.cell? ⟨T, 0, none⟩ = some (.slice (some ⟨D, 0, none⟩) n cap) := by rw [cell_of_row w T 0 _ _ _ h]; rfl
theorem SumAt.c1 (h : SumAt w T D n cap low mi ot) : w.cell? ⟨T, 1, none⟩ = some (.int .i64 low) := by rw [cell_of_row w T 1 _ _ _ h]; rfl
theorem SumAt.c2 (h : SumAt w T D n cap low mi ot) : w.cell? ⟨T, 2, none⟩ = some (.int .i64 mi) := by rw [cell_of_row w T 2 _ _ _ h]; rfl
theorem SumAt.c3 (h : SumAt w T D n cap low mi ot) : w.cell? ⟨T, 3, none⟩ = some (.int .i64 ot) := by rw [cell_of_row w T 3 _ _ _ h]; rfl
theorem SumAt.frozen (h : SumAt w T D n cap low mi ot) (i : Nat) : w.frozen? ⟨T, i, none⟩ = false := by simp [World.frozen?, show w.heap[T]? = _ from h]
theorem SumAt.setOther (h : SumAt w T D n cap low mi ot) {p : Addr} (hp : p.block ≠ T) (v : Value) : SumAt (w.setCell p v) T D n cap low mi ot := h.of_block (Below.heap_setCell _ _ _ _ (fun e => hp e.symm))
theorem SumAt.set0 (h : SumAt w T D n cap low mi ot) (D' n' cap' : Nat) : SumAt (w.setCell ⟨T, 0, none⟩ (.slice (some ⟨D', 0, none⟩) n' cap')) T D' n' cap' low mi ot := by
  unfold SumAt at *
  simp only [World.setCell, Array.getElem?_modify, h]
  simp
end

/-- the closure 'digit' of magnitude -/
theorem digit_neg (k : Int) (B : Nat) (w : World) (hk : k < 0) :
    Calls Tryf.prog 27 #[.int .i64 k, .pointer (some ⟨B, 0, none⟩)] w fun e w' => e = .returned (.int .u64 0) ∧ w' = w := by
  go_enter Tryf.func27, Tryf.ntmps27
  go_wp2
  go_ret
  exact ⟨rfl, rfl⟩

theorem digit_at (k B T D n cap : Nat) (x : Nat) (w : World) (hk : (k : Int) < n) (hB : w.cell? ⟨B, 0, none⟩ = some (.pointer (some ⟨T, 0, none⟩))) (h0 : w.cell? ⟨T, 0, none⟩ = some (.slice (some ⟨D, 0, none⟩) n cap))
    (hx : w.cell? ⟨D, k, none⟩ = some (.int .i64 x)) (hxb : x < 4294967296) (hn : n ≤ 1048576) :
    Calls Tryf.prog 27 #[.int .i64 k, .pointer (some ⟨B, 0, none⟩)] w fun e w' => e = .returned (.int .u64 x) ∧ w' = w := by
  have hk0 : (0 : Int) ≤ k := by omega
  go_enter Tryf.func27, Tryf.ntmps27
  go_wp2
  go_ret
  exact ⟨rfl, rfl⟩

theorem digit_any (k : Int) (j B T D n cap x : Nat) (zs : List Int) (w : World) (hj : k + 2 = j) (hl : zs.length = n) (hjn : j < n + 2) (hB : w.cell? ⟨B, 0, none⟩ = some (.pointer (some ⟨T, 0, none⟩)))
    (h0 : w.cell? ⟨T, 0, none⟩ = some (.slice (some ⟨D, 0, none⟩) n cap)) (hr : Row w .i64 2 D cap zs) (hx : ((0 : Int) :: 0 :: zs).getD j 0 = (x : Int)) (hxb : x < 4294967296) (hn : n ≤ 1048576) :
    Calls Tryf.prog 27 #[.int .i64 k, .pointer (some ⟨B, 0, none⟩)] w fun e w' => e = .returned (.int .u64 x) ∧ w' = w := by
  match j, hj, hjn, hx with
  | 0, hj, _, hx =>
    have e : x = 0 := by simpa using hx.symm
    subst e
    exact digit_neg k B w (by omega)
  | 1, hj, _, hx =>
    have e : x = 0 := by simpa using hx.symm
    subst e
    exact digit_neg k B w (by omega)
  | j + 2, hj, hjn, hx =>
    have e : k = (j : Int) := by omega
    subst e
    have hx' : zs.getD j 0 = (x : Int) := by simpa using hx
    exact digit_at j B T D n cap x w (by omega) hB h0 (by rw [hr.cell j (by omega), hx']) hxb hn

/-- the float of a sum that is not below 0 -/
def mg (V : Nat) (low : Int) : Nat := if V = 0 then 0 else rung V (32 * low)

theorem bitLen_log2 (x : Nat) (h0 : x ≠ 0) (h : x < 18446744073709551616) : Lib.bitLen x = x.log2 + 1 := by
  obtain ⟨h1, h2⟩ := (Nat.log2_eq_iff h0).1 rfl
  have e : x / 2 ^ x.log2 = 1 := by
    have hp := Nat.two_pow_pos x.log2
    apply Nat.div_eq_of_lt_le
    · omega
    · rw [Nat.pow_succ] at h2
      omega
  rw [Lib.bitLen_shift x.log2 x h1 (by omega), e]
  rfl

/-- what stands in magnitude behind its first loop -/
structure MS (w : World) (B T D n cap : Nat) (low mi ot : Int) (zs : List Int) (W : World) : Prop where
  sum : SumAt W T D n cap low mi ot
  row : Row W .i64 2 D cap zs
  box : W.cell? ⟨B, 0, none⟩ = some (.pointer (some ⟨T, 0, none⟩))
  kept : Kept w W []

theorem wrap_u64_small (v : Nat) (h : v < 18446744073709551616) : IntKind.u64.wrap (v : Int) = (v : Int) := by
  simp [IntKind.wrap, IntKind.bits, IntKind.signed]
  omega

theorem v_fact (x M L nb : Nat) (h1 : 1 ≤ nb) (h2 : nb ≤ 32) (hx : x < 2 ^ nb) (hM : M < 4294967296) (hL : L < 4294967296) :
    bits .or .u64 (bits .or .u64 (IntKind.u64.wrap ((x : Int) * 2 ^ (64 - nb))) (IntKind.u64.wrap ((M : Int) * 2 ^ (32 - nb)))) ((L : Int) / 2 ^ nb) = (((L + 4294967296 * M + 18446744073709551616 * x) / 2 ^ nb : Nat) : Int) := by
  have p1 : 2 ^ (64 - nb) * 2 ^ nb = 18446744073709551616 := by rw [← Nat.pow_add, show 64 - nb + nb = 64 by omega]
  have p2 : 2 ^ (32 - nb) * 2 ^ nb = 4294967296 := by rw [← Nat.pow_add, show 32 - nb + nb = 32 by omega]
  have a1 : x * 2 ^ (64 - nb) < 18446744073709551616 := by
    rw [← p1, Nat.mul_comm]
    exact Nat.mul_lt_mul_of_pos_left hx (Nat.two_pow_pos _)
  have a2 : M * 2 ^ (32 - nb) < 18446744073709551616 := by
    have h : M * 2 ^ (32 - nb) ≤ 4294967296 * 2 ^ (32 - nb) := Nat.mul_le_mul_right _ (by omega)
    have h' : 2 ^ (32 - nb) ≤ 2 ^ 31 := Nat.pow_le_pow_right (by decide) (by omega)
    omega
  have a3 : L / 2 ^ nb < 18446744073709551616 := by
    have := Nat.div_le_self L (2 ^ nb)
    omega
  have e1 : (x : Int) * 2 ^ (64 - nb) = ((x * 2 ^ (64 - nb) : Nat) : Int) := by norm_cast
  have e2 : (M : Int) * 2 ^ (32 - nb) = ((M * 2 ^ (32 - nb) : Nat) : Int) := by norm_cast
  have e3 : (L : Int) / 2 ^ nb = ((L / 2 ^ nb : Nat) : Int) := by norm_cast
  rw [e1, e2, e3, wrap_u64_small _ a1, wrap_u64_small _ a2, or_nat _ _ a1 a2, or_nat _ _ (by exact Nat.or_lt_two_pow (n := 64) a1 a2) a3, three_words x M L nb h2 hM hL]

theorem s_fact (L nb : Nat) (h2 : nb ≤ 32) (hL : L < 4294967296) : (bits .and .u64 (L : Int) (IntKind.u64.wrap (IntKind.u64.wrap (2 ^ nb) - 1)) != 0) = decide (L % 2 ^ nb ≠ 0) := by
  have hp : 2 ^ nb ≤ 2 ^ 32 := Nat.pow_le_pow_right (by decide) h2
  have hp0 := Nat.two_pow_pos nb
  have e1 : (2 : Int) ^ nb = ((2 ^ nb : Nat) : Int) := by norm_cast
  have e2 : ((2 ^ nb : Nat) : Int) - 1 = ((2 ^ nb - 1 : Nat) : Int) := by omega
  rw [e1, wrap_u64_small _ (by omega), e2, wrap_u64_small _ (by omega), u64_and_nat L (2 ^ nb - 1) (by omega) (by omega), Nat.and_two_pow_sub_one_eq_mod]
  generalize L % 2 ^ nb = r
  by_cases c : r = 0
  · subst c; rfl
  · rw [decide_eq_true c]
    simpa using c

/-- what stands in magnitude's second loop: has anything been seen below? -/
structure SF (L nb i : Nat) (k : Int) (b : Bool) (zs : List Int) : Prop where
  iff : b = true ↔ (L % 2 ^ nb ≠ 0 ∨ ∃ j : Nat, k < j ∧ j + 3 ≤ i ∧ zs.getD j 0 ≠ 0)

structure SG (L nb i : Nat) (b : Bool) (zs : List Int) : Prop where
  iff : b = true ↔ (L % 2 ^ nb ≠ 0 ∨ ∃ j : Nat, j + 3 ≤ i ∧ zs.getD j 0 ≠ 0)

/-- the plain facts, shut up: a walk has no use for them -/
structure MF (n V : Nat) (low : Int) (zs : List Int) : Prop where
  x : 2 ^ (-1074 - 32 * low).toNat ∣ V
  b : ∀ i, i < n → 0 ≤ zs.getD i 0 ∧ zs.getD i 0 < 4294967296
  v : val zs = (V : Int)
structure ZF (n i : Nat) (zs : List Int) : Prop where
  z : ∀ j, i ≤ j → j < n → zs.getD j 0 = 0
structure XF (i x : Nat) (zs : List Int) : Prop where
  at_ : zs.getD i 0 = (x : Int)
  ne : x ≠ 0

set_option maxHeartbeats 4000000 in
set_option maxRecDepth 100000 in
theorem mag_any (T D n cap V : Nat) (low mi ot : Int) (zs : List Int) (w : World) (hs : SumAt w T D n cap low mi ot) (hr : Row w .i64 2 D cap zs) (hz : zs.length = n) (hn : n ≤ 1048576) (hb : ∀ i, i < n → 0 ≤ zs.getD i 0 ∧ zs.getD i 0 < 4294967296)
    (hl1 : -34 ≤ low) (hl2 : low ≤ 1048576) (hV : val zs = (V : Int)) (hx : 2 ^ (-1074 - 32 * low).toNat ∣ V) :
    Calls Tryf.prog 22 #[.pointer (some ⟨T, 0, none⟩)] w fun e w' => e = .returned (.float .f64 (mg V low)) ∧ Kept w w' [] := by
  obtain ⟨W0, hW0⟩ : ∃ W0, W0 = w.alloc (.cells #[.pointer (some ⟨T, 0, none⟩)] 70) := ⟨_, rfl⟩
  have ms : MS w w.heap.size T D n cap low mi ot zs W0 := by
    rw [hW0]
    exact ⟨hs.alloc _, hr.alloc _, by simp [go_sem], (Kept.refl _ _).alloc _⟩
  have c0 := hs.c0
  have mf : MF n V low zs := ⟨hx, hb, hV⟩
  clear hx hb hV hs hr
  have cs := ms.sum.c0
  have cb := ms.box
  have HW := hide hW0
  go_enter Tryf.func22, Tryf.ntmps22
  rw [hW0] at cs cb
  clear hW0
  go_wp2
  rw [← HW.out]
  clear HW cs cb c0
  have cs := ms.sum.c0
  have cb := ms.box
  generalize w.heap.size = B at *
  go_loopw [3] (fun s3 wr => ∃ k : Nat, s3 = .int .i64 ((k : Int) - 1) ∧ k ≤ n ∧ W0 = wr ∧ ZF n k zs) (fun s3 _ => (intOf s3 + 1).toNat)
  case atStart => exact ⟨n, rfl, Nat.le_refl _, rfl, ⟨fun j h1 h2 => by omega⟩⟩
  case round =>
    obtain ⟨k, rfl, hk, hw, HZ⟩ := hrel
    subst wr
    by_cases hk0 : k = 0
    · subst hk0
      have HV : Hid (V = 0) := by
        have := val_zero zs (fun i hi => HZ.z i (Nat.zero_le _) (by omega))
        have h2 := mf.v
        show V = 0
        omega
      go_wp2
      go_ret
      exact ⟨by rw [show mg V low = 0 by simp [mg, HV.out]]; rfl, ms.kept⟩
    · obtain ⟨i, rfl⟩ : ∃ i, k = i + 1 := ⟨k - 1, by omega⟩
      obtain ⟨x, hx⟩ := Int.eq_ofNat_of_zero_le (mf.b i (by omega)).1
      have hxb := (mf.b i (by omega)).2
      have ci := ms.row.cell i (by omega)
      rw [hx] at ci hxb
      have hki : ((i + 1 : Nat) : Int) - 1 = (i : Int) := by omega
      have hin : (i : Int) < n := by omega
      have hi0 : (0 : Int) ≤ i := by omega
      rw [hki]
      by_cases x0 : x = 0
      · subst x0
        have HZ' : ZF n i zs := by
          refine ⟨fun j h1 h2 => ?_⟩
          by_cases e : j = i
          · rw [e, hx]; rfl
          · exact HZ.z j (by omega) h2
        clear HZ hx
        go_wp2
        go_roundw
        case rel => exact ⟨i, rfl, by omega, by trivial, HZ'⟩
        case measure => simp [intOf]
      · have x0' : ((x : Int) == 0) = false := by simp; omega
        have HX : XF i x zs := ⟨hx, x0⟩
        obtain ⟨M, hM⟩ := Int.eq_ofNat_of_zero_le (show 0 ≤ ((0 : Int) :: 0 :: zs).getD (i + 1) 0 by
          match i with
          | 0 => simp
          | i + 1 => simpa using (mf.b i (by omega)).1)
        obtain ⟨L, hL⟩ := Int.eq_ofNat_of_zero_le (show 0 ≤ ((0 : Int) :: 0 :: zs).getD i 0 by
          match i with
          | 0 => simp
          | 1 => simp
          | i + 2 => simpa using (mf.b i (by omega)).1)
        have hMb : M < 4294967296 := by
          have : ((0 : Int) :: 0 :: zs).getD (i + 1) 0 < 4294967296 := by
            match i with
            | 0 => simp
            | i + 1 => simpa using (mf.b i (by omega)).2
          omega
        have hLb : L < 4294967296 := by
          have : ((0 : Int) :: 0 :: zs).getD i 0 < 4294967296 := by
            match i with
            | 0 => simp
            | 1 => simp
            | i + 2 => simpa using (mf.b i (by omega)).2
          omega
        have d0 := digit_any (i : Int) (i + 2) B T D n cap x zs W0 (by omega) hz (by omega) cb cs ms.row (by simpa using hx) (by omega) hn
        have d1 := digit_any ((i : Int) - 1) (i + 1) B T D n cap M zs W0 (by omega) hz (by omega) cb cs ms.row hM hMb hn
        have d2 := digit_any ((i : Int) - 2) i B T D n cap L zs W0 (by omega) hz (by omega) cb cs ms.row hL hLb hn
        have ln := Tryf.bits_Len64 (x : Int) W0 (by omega) (by omega)
        obtain ⟨nb, hnb⟩ : ∃ nb, nb = x.log2 + 1 := ⟨_, rfl⟩
        rw [Int.toNat_natCast, bitLen_log2 x x0 (by omega), ← hnb] at ln
        have nb1 : 1 ≤ nb := by omega
        have nb2 : nb ≤ 32 := by
          have : x.log2 < 32 := (Nat.log2_lt x0).2 (by omega)
          omega
        have HNB := hide hnb
        have HM : Hid (((0 : Int) :: 0 :: zs).getD (i + 1) 0 = (M : Int) ∧ ((0 : Int) :: 0 :: zs).getD i 0 = (L : Int)) := ⟨hM, hL⟩
        have hlt : ¬ ((i : Int) < 0) := by omega
        have hxlt : x < 4294967296 := by omega
        clear hx hki x0 hM hL hxb hk0 hnb
        go_wp2_with fail
        refine d0.mono ?_
        rintro e w' ⟨rfl, hw⟩
        subst w'
        go_wp2_with fail
        refine d1.mono ?_
        rintro e w' ⟨rfl, hw⟩
        subst w'
        go_wp2_with fail
        refine d2.mono ?_
        rintro e w' ⟨rfl, hw⟩
        subst w'
        go_wp2_with fail
        refine ln.mono ?_
        rintro e w' ⟨rfl, hw⟩
        subst w'
        clear d0 d1 d2 ln
        have hvf := v_fact x M L nb nb1 nb2 (by rw [HNB.out]; exact Nat.lt_log2_self) hMb hLb
        have hsf := s_fact L nb nb2 hLb
        have sf : SF L nb i ((i : Int) - 3) (decide (L % 2 ^ nb ≠ 0)) zs := by
          refine ⟨?_⟩
          constructor
          · intro h
            exact Or.inl (by simpa using h)
          · rintro (h | ⟨j, h1, h2, _⟩)
            · simpa using h
            · omega
        generalize decide (L % 2 ^ nb ≠ 0) = b0 at *
        obtain ⟨v, hv⟩ : ∃ v, v = (L + 4294967296 * M + 18446744073709551616 * x) / 2 ^ nb := ⟨_, rfl⟩
        rw [← hv] at hvf
        have HVV := hide hv
        clear hv
        go_upto_block 2 with fail
        clear hvf hsf
        go_cut [10, 11] (fun s10 s11 wx => ∃ b : Bool, s10 = .bool b ∧ W0 = wx ∧ SG L nb i b zs)
        case first =>
          go_wp2_with fail
          go_loopw [10, 11] (fun s10 s11 wr => ∃ (k : Int) (b : Bool), s10 = .bool b ∧ s11 = .int .i64 k ∧ -3 ≤ k ∧ k ≤ (i : Int) - 3 ∧ W0 = wr ∧ SF L nb i k b zs) (fun _ s11 _ => (intOf s11 + 4).toNat)
          case atStart => exact ⟨_, b0, rfl, rfl, by omega, by omega, rfl, sf⟩
          case round =>
            obtain ⟨k, b, rfl, rfl, hk1, hk2, hw, sk⟩ := hrel
            subst wr
            clear sf
            cases b
            · by_cases hk0 : k < 0
              · have sg : SG L nb i false zs := by
                  refine ⟨sk.iff.trans ?_⟩
                  constructor
                  · rintro (h | ⟨j, _, h2, h3⟩)
                    · exact Or.inl h
                    · exact Or.inr ⟨j, h2, h3⟩
                  · rintro (h | ⟨j, h2, h3⟩)
                    · exact Or.inl h
                    · exact Or.inr ⟨j, by omega, h2, h3⟩
                go_wp2
                go_meet
                exact ⟨false, rfl, by trivial, sg⟩
              · obtain ⟨j, hj⟩ := Int.eq_ofNat_of_zero_le (show 0 ≤ k by omega)
                subst hj
                have cj := ms.row.cell j (by omega)
                obtain ⟨y, hy⟩ : ∃ y, y = zs.getD j 0 := ⟨_, rfl⟩
                rw [← hy] at cj
                have hjn : (j : Int) < n := by omega
                have hj0 : (0 : Int) ≤ j := by omega
                have sk' : SF L nb i ((j : Int) - 1) (y != 0) zs := by
                  refine ⟨?_⟩
                  have h0 := sk.iff
                  constructor
                  · intro h
                    exact Or.inr ⟨j, by omega, by omega, by rw [← hy]; simpa using h⟩
                  · rintro (h | ⟨l, h1, h2, h3⟩)
                    · exact absurd (h0.2 (Or.inl h)) (by simp)
                    · by_cases e : l = j
                      · rw [e, ← hy] at h3
                        simpa using h3
                      · exact absurd (h0.2 (Or.inr ⟨l, by omega, h2, h3⟩)) (by simp)
                clear sk hy
                go_wp2
                go_roundw
                case rel => exact ⟨_, _, rfl, rfl, by omega, by omega, by trivial, sk'⟩
                case measure => simp [intOf]; omega
            · have sg : SG L nb i true zs := by
                refine ⟨sk.iff.trans ?_⟩
                have h0 := sk.iff.1 rfl
                constructor
                · rintro (h | ⟨j, _, h2, h3⟩)
                  · exact Or.inl h
                  · exact Or.inr ⟨j, h2, h3⟩
                · intro _
                  exact h0
              by_cases hk0 : k < 0
              · go_wp2
                go_meet
                exact ⟨true, rfl, by trivial, sg⟩
              · go_wp2
                go_meet
                exact ⟨true, rfl, by trivial, sg⟩
        case rest =>
        obtain ⟨b, rfl, hw, sg⟩ := hcut
        subst hw
        clear sf
        obtain ⟨t0, t1, t2, t3, t4, t5, t6, t7⟩ := top_digits zs (fun i h => mf.b i (by omega)) i (by omega) (fun j h1 h2 => HZ.z j (by omega) (by omega)) x M L nb V HX.at_ HM.out.1 HM.out.2 HX.ne HNB.out mf.v b sg.iff
        rw [← HVV.out] at t2
        have hy := top_bounds V t0
        obtain ⟨tp, htp⟩ : ∃ tp, tp = top V := ⟨_, rfl⟩
        have hor : (bits .or .u64 (v : Int) 1 = (tp : Int) ∧ b = true) ∨ (v = tp ∧ b = false) := by
          rw [htp, t2]
          cases b
          · exact Or.inr ⟨rfl, rfl⟩
          · left
            refine ⟨?_, rfl⟩
            have h := or_nat v 1 (by
              rw [t2] at hy
              simp only [stk, if_true] at hy
              omega) (by decide)
            rw [or_one] at h
            simpa [stk] using h
        have c1 := ms.sum.c1
        have HT0 := hide t0
        have HT1 := hide t1
        have HTP := hide htp
        have hy1 : 9223372036854775808 ≤ tp := by rw [htp]; exact hy.1
        have hy2 : tp < 18446744073709551616 := by rw [htp]; exact hy.2
        obtain ⟨x1, hx1⟩ : ∃ x1, x1 = 1085 * 2 ^ 52 + rne tp 11 := ⟨_, rfl⟩
        have hcv : floatOfInt .f64 (tp : Int) = x1 := by
          have := near_t tp hy1 hy2
          rw [hx1, ← this]
          show Ieee.double.nearest (decide ((tp : Int) < 0)) (tp : Int).natAbs 0 = _
          rw [decide_eq_false (by omega)]
          rfl
        have hb1 := rne11 tp hy1 hy2
        have hld := Ldexp_any x1 (32 * (low + (i : Int)) + nb - 1 - 63) W0 (by omega) (by omega) (by omega) (by omega)
        have hres : rung (2 ^ 52 + x1 % 2 ^ 52) ((x1 / 2 ^ 52 : Nat) - 1075 + (32 * (low + (i : Int)) + nb - 1 - 63)) = mg V low := by
          have h := ldexp_top V (32 * low) t0 mf.x x1 (by rw [hx1, htp])
          rw [show 32 * low + (V.log2 : Int) - 63 = 32 * (low + (i : Int)) + nb - 1 - 63 by omega] at h
          rw [h, mg, if_neg t0]
        rw [hres] at hld
        have HLD := hide hld
        clear t0 t1 t2 t3 t4 t5 t6 t7 hy htp hx1 hres hld hb1
        rcases hor with ⟨ho, rfl⟩ | ⟨rfl, rfl⟩
        · go_wp2_with fail
          refine HLD.out.mono ?_
          rintro e w' ⟨rfl, hw⟩
          subst w'
          go_wp2
          go_ret
          exact ⟨rfl, ms.kept⟩
        · go_wp2_with fail
          refine HLD.out.mono ?_
          rintro e w' ⟨rfl, hw⟩
          subst w'
          go_wp2
          go_ret
          exact ⟨rfl, ms.kept⟩

end Fl
end Go.Proofs.Qxb6615471aFmt
