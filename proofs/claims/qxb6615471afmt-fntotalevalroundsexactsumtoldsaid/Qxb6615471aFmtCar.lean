/-
  THE WALK of carry.
-/
import Derived.Test.Qxb6615471aFmtNeg
import Derived.Test.Qxb6615471aFmtCarP
namespace Go.Proofs.Qxb6615471aFmt
open Go.RowKit
set_option linter.unusedVariables false
namespace Fl

theorem Row.take {w : World} {k : IntKind} {T : TypeId} {b cap : Nat} {zs : List Int} (h : Row w k T b cap zs) (m : Nat) : Row w k T b cap (zs.take m) := by
  obtain ⟨r, h1, h2⟩ := h
  refine ⟨(zs.drop m).map (Value.int k) ++ r, ?_, ?_⟩
  · rw [h1, ← List.append_assoc, ← List.map_append, List.take_append_drop]
  · simp
    omega

/-- what carry leaves -/
def CarOut (w0 : World) (T D0 D cap N : Nat) (low mi ot v : Int) (W : World) : Prop :=
  ∃ n' zs', NS w0 T D0 low mi ot W D n' cap zs' ∧ Carried zs' ∧ val zs' = v ∧ 1 ≤ n' ∧ n' ≤ N

theorem car_out {w0 W : World} {T D0 D cap n L : Nat} {low mi ot v : Int} {zl : List Int} (h : NS w0 T D0 low mi ot W D (n + 1) cap zl) (t : TR v n L zl) :
    CarOut w0 T D0 D cap (n + 1) low mi ot v (W.setCell ⟨T, 0, none⟩ (.slice (some ⟨D, 0, none⟩) (L + 1) cap)) := by
  have hle := t.le
  refine ⟨L + 1, zl.take (L + 1), ⟨h.sum.set0 D (L + 1) cap, (h.row.take (L + 1)).setOther (p := ⟨T, 0, none⟩) h.ne _, t.digit, h.ne, h.capm, h.own, h.kept.setCell (p := ⟨T, 0, none⟩) (Or.inl (by simp)) _⟩, t.car, t.val, by omega, by omega⟩

set_option maxHeartbeats 8000000 in
set_option maxRecDepth 100000 in
theorem carry_any (w0 : World) (T D0 D n cap : Nat) (low mi ot tt : Int) (ys : List Int) (W : World) (h : NS w0 T D0 low mi ot W D (n + 1) cap ys) (hto : tt = n) (hn1 : 1 ≤ n) (hn : n ≤ 1048576)
    (hb : ∀ j, j < n → -4294967296 < ys.getD j 0 ∧ ys.getD j 0 < 4294967296) (hl : ys.getD n 0 = 0 ∨ ys.getD n 0 = -1) (hv : val ys ≠ 0) :
    Calls Tryf.prog 31 #[.pointer (some ⟨T, 0, none⟩), .int .i64 0, .int .i64 tt] W fun e w' => e = .returned (.tuple #[]) ∧ CarOut w0 T D0 D cap (n + 1) low mi ot (val ys) w' := by
  subst hto
  have c0 := h.sum.c0
  have HB := hide hb
  have HL := hide hl
  have HV := hide hv
  clear hb hl hv
  go_enter Tryf.func31, Tryf.ntmps31
  go_upto_block 0 with fail
  go_cut [8, 9] (fun s8 s9 wx => ∃ zk, NS w0 T D0 low mi ot wx D (n + 1) cap zk ∧ CI ys n n zk)
  case first =>
    go_wp2_with fail
    go_loopw [8, 9] (fun s8 s9 wr => ∃ (k : Nat) (zk : List Int), s8 = .int .i64 k ∧ k ≤ n ∧ NS w0 T D0 low mi ot wr D (n + 1) cap zk ∧ CI ys n k zk) (fun s8 _ _ => n - (intOf s8).toNat)
    case atStart => exact ⟨0, ys, rfl, Nat.zero_le _, h, ci_start ys n h.len⟩
    case round =>
      obtain ⟨k, zk, rfl, hk, sk, ci⟩ := hrel
      clear h c0
      by_cases hlt : (k : Int) < n
      · have hkn : k < n := by omega
        have ck := sk.row.cell k (by rw [sk.len]; omega)
        have ck1 := sk.row.cell (k + 1) (by rw [sk.len]; omega)
        have fk := sk.row.frozen k
        have fk1 := sk.row.frozen (k + 1)
        obtain ⟨d, hd⟩ : ∃ d, d = zk.getD k 0 := ⟨_, rfl⟩
        obtain ⟨d', hd'⟩ : ∃ d', d' = zk.getD (k + 1) 0 := ⟨_, rfl⟩
        rw [← hd] at ck
        rw [← hd'] at ck1
        have bd := HB.out k hkn
        have bh := ci.here
        rw [← hd] at bh
        have hdb : -4294967296 ≤ d ∧ d < 4294967296 := by omega
        have bd' : -4294967297 < d' ∧ d' < 4294967297 := by
          have e := ci.high (k + 1) (by omega)
          rw [← hd'] at e
          by_cases e2 : k + 1 < n
          · have := HB.out (k + 1) e2
            omega
          · have e3 : k + 1 = n := by omega
            have := HL.out
            rw [e3] at e
            omega
        have HD := hide hd
        have HD' := hide hd'
        clear bd bh hd hd'
        by_cases d0 : 0 ≤ d
        · have hq : d / 4294967296 = 0 := by omega
          have s' := (sk.set k (by omega) d).set (k + 1) (by omega) d'
          have ci' : CI ys n (k + 1) ((zk.set k d).set (k + 1) d') := by
            have h2 := ci_step ci hkn 0 (Or.inl rfl) (by rw [← HD.out]; omega)
            rw [← HD.out, ← HD'.out] at h2
            simpa using h2
          clear sk ci
          go_wp2
          go_roundw
          case rel => exact ⟨k + 1, _, by go_num, by omega, s', ci'⟩
          case measure => simp [intOf]; omega
        · have hq : d / 4294967296 = -1 := by omega
          have s' := (sk.set k (by omega) (d + 4294967296)).set (k + 1) (by omega) (d' - 1)
          have ci' : CI ys n (k + 1) ((zk.set k (d + 4294967296)).set (k + 1) (d' - 1)) := by
            have h2 := ci_step ci hkn (-1) (Or.inr rfl) (by rw [← HD.out]; omega)
            rw [← HD.out, ← HD'.out] at h2
            rw [show d + 4294967296 = d - -1 * 4294967296 by omega, show d' - 1 = d' + -1 by omega]
            exact h2
          clear sk ci
          go_wp2
          go_roundw
          case rel => exact ⟨k + 1, _, by go_num, by omega, s', ci'⟩
          case measure => simp [intOf]; omega
      · have ek : k = n := by omega
        subst ek
        go_wp2
        go_meet
        exact ⟨zk, sk, ci⟩
  case rest =>
  obtain ⟨zk, s1, ci⟩ := hcut
  clear h c0
  have hl := s1.row.cell n (by rw [s1.len]; omega)
  obtain ⟨e, he⟩ : ∃ e, e = zk.getD n 0 := ⟨_, rfl⟩
  rw [← he] at hl
  have heb : -2 ≤ e ∧ e ≤ 0 := by
    have h1 := HL.out
    have h2 := ci.here
    rw [← he] at h2
    omega
  have tr := tr_start ci (by rw [← he]; omega) (by rw [← he]; omega)
  have HV' := hide HV.out
  clear he ci HB HL
  go_wp2
  refine wp_loop_rounds 1 ?_
  rw [rounds_succ]
  go_wp2
  clear hl heb
  go_loopw [7] (fun s7 wr => ∃ (L : Nat) (zl : List Int), s7 = .int .i64 L ∧ NS w0 T D0 low mi ot wr D (n + 1) cap zl ∧ L ≤ n ∧ TR (val ys) n L zl) (fun s7 _ => (intOf s7).toNat)
  case atStart => exact ⟨n, zk, rfl, s1, Nat.le_refl _, tr⟩
  case round =>
    obtain ⟨L, zl, rfl, sl, hL, tl⟩ := hrel
    clear s1 tr
    have cs := sl.sum.c0
    have fz := sl.sum.frozen 0
    have hcp : (n : Int) + 1 ≤ cap := by
      have h1 := sl.row.len
      rw [sl.len] at h1
      omega
    cases L with
    | zero =>
      have c0 := sl.row.cell 0 (by rw [sl.len]; omega)
      obtain ⟨y, hy⟩ : ∃ y, y = zl.getD 0 0 := ⟨_, rfl⟩
      rw [← hy] at c0
      have y0 : (y == 0) = false := by
        have := tr_first tl HV'.out
        rw [← hy] at this
        simpa using this
      clear hy
      have out := car_out sl tl
      clear sl tl
      go_wp2
      go_end0
      exact ⟨rfl, out⟩
    | succ L =>
      have c1 := sl.row.cell (L + 1) (by rw [sl.len]; omega)
      have c2 := sl.row.cell L (by rw [sl.len]; omega)
      have f2 := sl.row.frozen L
      obtain ⟨y, hy⟩ : ∃ y, y = zl.getD (L + 1) 0 := ⟨_, rfl⟩
      obtain ⟨b, hb⟩ : ∃ b, b = zl.getD L 0 := ⟨_, rfl⟩
      rw [← hy] at c1
      rw [← hb] at c2
      have yb := tl.top
      rw [← hy] at yb
      have bb := tl.below L (Nat.le_refl _)
      rw [← hb] at bb
      have HY := hide hy
      have HBB := hide hb
      clear hy hb
      have hLn : ((L : Int) + 1) ≤ n := by omega
      by_cases q1 : y = 0
      · subst q1
        by_cases q2 : b < 2147483648
        · have t' := tr_zero tl HY.out.symm (by rw [← HBB.out]; exact q2)
          clear tl
          go_wp2
          go_roundw
          case rel => exact ⟨L, zl, by go_num, sl, by omega, t'⟩
          case measure => simp [intOf]
        · have out := car_out sl tl
          clear sl tl
          go_wp2
          refine bodyPost_ret (results_none rfl _ _ _) rfl ?_
          exact ⟨rfl, out⟩
      · have q1' : (y == 0) = false := by simpa using q1
        by_cases q3 : y = -1
        · subst q3
          by_cases q2 : 2147483648 ≤ b
          · have t' := tr_neg tl HY.out.symm (by rw [← HBB.out]; exact q2)
            rw [← HBB.out] at t'
            have s' := sl.set L (by omega) (b - 4294967296)
            clear tl sl
            go_wp2
            go_roundw
            case rel => exact ⟨L, _, by go_num, s', by omega, t'⟩
            case measure => simp [intOf]
          · have out := car_out sl tl
            clear sl tl
            go_wp2
            refine bodyPost_ret (results_none rfl _ _ _) rfl ?_
            exact ⟨rfl, out⟩
        · have q3' : (y == -1) = false := by simpa using q3
          have out := car_out sl tl
          clear sl tl
          go_wp2
          refine bodyPost_ret (results_none rfl _ _ _) rfl ?_
          exact ⟨rfl, out⟩

end Fl
end Go.Proofs.Qxb6615471aFmt
