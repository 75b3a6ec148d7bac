/-
  THE WALK of step.
-/
import Derived.Test.Qxb6615024aDoorStpA
namespace Go.Proofs.Qxb6615024aDoor
open Go.RowKit
set_option linter.unusedVariables false
namespace Gl

set_option maxHeartbeats 400000000 in
set_option maxRecDepth 100000 in
theorem step_any (X : Cx) (ok : X.Ok) (F2 : Nat) (l2 : Int) (zx zm : List Int)
    (hg : PG X.w X.S X.g X.st X.ss X.jb X.cb X.cap X.ip X.ipc X.n X.cs X.pl)
    (hns : SetAt X.w X.ns X.nm X.n X.F X.l) (hnm : Row X.w .u64 30 X.nm X.n X.zn)
    (hxs : SetAt X.w X.xs X.xm X.n F2 l2) (hxm : Row X.w .u64 30 X.xm X.n zx) (hF2 : F2 ≤ X.n) (hl20 : -1 ≤ l2) (hl21 : l2 < X.n) (hzx : zx.length = X.n) (hxo : ∀ i, i < X.n → ((i : Int) < F2 ∨ l2 < i) → zx.getD i 0 = 0)
    (hmm : Row X.w .u64 30 X.mm X.n zm) (hzm : zm.length = X.n) (hwm : WF zm) (hH : ∀ q, X.Hit q → X.F ≤ q / 64 ∧ ((q / 64 : Nat) : Int) ≤ X.l) :
    Calls Tryd.prog 19 #[.pointer (some ⟨X.g, 0, none⟩), .pointer (some ⟨X.ns, 0, none⟩), .pointer (some ⟨X.xs, 0, none⟩), .slice (some ⟨X.mm, 0, none⟩) X.n X.n, .int .i32 X.c] X.w fun e w' => ∃ r : Int, e = .returned (.int .i64 r) ∧ StepOut X zm w' r := by
  obtain ⟨W0, hW0⟩ : ∃ W0, W0 = (X.w.alloc (.cells #[.pointer (some ⟨X.g, 0, none⟩)] 27)).alloc (.cells #[.int .i32 X.c] 21) := ⟨_, rfl⟩
  have k0 : Kept X.w W0 [] := by rw [hW0]; exact ((Kept.refl _ _).alloc _).alloc _
  have k0' : Kept X.w W0 X.S := k0.mono (by simp)
  have cg0 : W0.cell? ⟨X.w.heap.size, 0, none⟩ = some (.pointer (some ⟨X.g, 0, none⟩)) := by rw [hW0]; simp [go_sem]
  have cc0 : W0.cell? ⟨X.w.heap.size + 1, 0, none⟩ = some (.int .i32 X.c) := by rw [hW0]; simp [go_sem]
  have b0 : X.w.heap.size + 2 ≤ W0.heap.size := by rw [hW0]; simp
  have k1 : ∀ W1, Kept W0 W1 [X.xs, X.xm] → SetAt W1 X.xs X.xm X.n 0 (-1) → Row W1 .u64 30 X.xm X.n (List.replicate X.n 0) → SS X 0 (-1) (List.replicate X.n 0) zm W1 := by
    intro W1 k hs hm
    have hk : Kept W0 W1 X.S := k.mono (by simp [Cx.S])
    have hs' := k.size
    have l0 : X.w.heap.size ∉ X.S := fun m => by have := ok.lS _ m; omega
    have l1 : X.w.heap.size + 1 ∉ X.S := fun m => by have := ok.lS _ m; omega
    exact ⟨(hg.kept k0').kept hk, (hns.kept k0 (by simp)).kept hk ok.d1, (hnm.kept k0 (by simp)).kept hk ok.d2, hs, hm, (hmm.kept k0 (by simp)).kept k (by have := ok.d4; have := ok.d5; simp; omega), by simp, hzm, wf_rep _, hwm,
      (hk.cell (p := ⟨X.w.heap.size, 0, none⟩) (show X.w.heap.size < W0.heap.size by omega) l0).trans cg0, (hk.cell (p := ⟨X.w.heap.size + 1, 0, none⟩) (show X.w.heap.size + 1 < W0.heap.size by omega) l1).trans cc0, k0'.trans hk, by omega⟩
  have HR := hide (reset_any X.xs X.xm X.n F2 l2 zx W0 (hxs.kept k0 (by simp)) (hxm.kept k0 (by simp)) hzx ok.hn hF2 hl20 hl21 ok.d3 hxo)
  have HW := hide hW0
  have HK := hide k1
  clear hW0 hg hns hnm hxs hxm hmm cg0 cc0 k0 k0' k1 b0 hxo
  go_enter Tryd.func19, Tryd.ntmps19
  go_wp2_with fail
  rw [← HW.out]
  refine Calls.mono HR.out ?_
  rintro e W1 ⟨rfl, hxs1, hxm1, kk1⟩
  have s1 := HK.out W1 kk1 hxs1 hxm1
  clear HK HW HR hxs1 hxm1 kk1
  have n1 := s1.ns.c1
  have n2 := s1.ns.c2
  have cg := s1.cg
  have cc := s1.cc
  have g4 := s1.pg.stars
  have g5 := s1.pg.slash
  go_wp2
  go_region
  go_upto_if 39 with fail
  go_cut [13] (fun s13 wx => SS X 0 (-1) (List.replicate X.n 0) zm wx ∧ ∃ sv, s13 = .slice (some ⟨sv, 0, none⟩) X.n X.n ∧ sv ∉ X.S ∧ Row wx .u64 30 sv X.n (List.replicate X.n 0))
  case first =>
    as_aux_lemma =>
      have hs := s1.pg.sS
      have r1 := s1.pg.rst
      have r2 := s1.pg.rss
      cases h47 : (X.c == 47)
      · go_wp2
        go_meet
        exact ⟨s1.drew, X.st, rfl, hs.1, r1.drew⟩
      · go_wp2
        go_meet
        exact ⟨s1.drew, X.ss, rfl, hs.2.1, r2.drew⟩
  case rest =>
  focus
    obtain ⟨s2, sv, rfl, hsv, rsv⟩ := hcut
    clear s1 n1 n2 cg cc g4 g5
    go_wp2
    go_loopw [14] (fun i wr => ∃ (k : Nat) (zk : List Int), X.F ≤ k ∧ (k : Int) ≤ max (X.F : Int) (X.l + 1) ∧ i = .int .i64 k ∧ SS X 0 (-1) (List.replicate X.n 0) zk wr ∧ Row wr .u64 30 sv X.n (List.replicate X.n 0) ∧
        Hid (∀ q, bo zk q = (bo zm q && !decide (X.F ≤ q / 64 ∧ q / 64 < k)))) (fun i _ => X.n + 1 - (intOf i).toNat)
    case atStart => exact ⟨X.F, zm, Nat.le_refl _, by omega, rfl, s2, rsv, zr_start X.F zm⟩
    case round =>
      focus
        obtain ⟨k, zk, hk0, hk1, rfl, sk, rk, HB⟩ := hrel
        clear s2 rsv
        have hl1 := ok.hl1
        have hF := ok.hF
        have hn := ok.hn
        by_cases hlt : (k : Int) ≤ X.l
        · as_aux_lemma =>
            have hkn : (k : Int) < (X.n : Int) := by omega
            have hk0' : (0 : Int) ≤ (k : Int) := by omega
            have e0 := sk.ns.c0
            have e1 := sk.nm.cell k (by rw [ok.hzn]; omega)
            have e2 := rep_cell rk k (by omega)
            have e3 := sk.mm.cell k (by rw [sk.lm]; omega)
            have e4 := sk.mm.frozen k
            have ha := and0 _ (wf_getD ok.hwn k)
            generalize X.zn.getD k 0 = y at *
            generalize zk.getD k 0 = y' at *
            have s' := sk.upd (W' := (wr.setCell ⟨X.mm, k, none⟩ (.int .u64 0)).drew) ok (((Kept.refl wr X.S).setCell (p := ⟨X.mm, k, none⟩) (Or.inl (by simp [Cx.S])) _).drew) ((sk.xs.setOther (p := ⟨X.mm, k, none⟩) (fun e => ok.d4 e.symm) _).drew)
              ((sk.xm.setOther (p := ⟨X.mm, k, none⟩) (fun e => ok.d5 e.symm) _).drew) ((sk.mm.set k (by rw [sk.lm]; omega) 0).drew) sk.lx (by simpa using sk.lm) sk.wx (wf_set sk.wm _ _ (by decide) (by decide))
            have r' : Row (wr.setCell ⟨X.mm, k, none⟩ (.int .u64 0)).drew .u64 30 sv X.n (List.replicate X.n 0) := (rk.setOther (p := ⟨X.mm, k, none⟩) (fun e => hsv (by rw [← e]; simp [Cx.S])) _).drew
            have hlm := sk.lm
            clear sk rk
            go_wp2
            go_region
            go_wp2
            go_roundw
            case rel =>
              refine ⟨k + 1, zk.set k 0, by omega, by omega, by go_num, s', r', ?_⟩
              exact zr_step X.F k zk zm hk0 (by omega) HB.out
            case measure => simp [intOf]; omega
        · have HZ : Hid (∀ q, bo zk q = (bo zm q && !decide (X.F ≤ q / 64 ∧ ((q / 64 : Nat) : Int) ≤ X.l))) := by
            intro q
            rw [HB.out q]
            have : (X.F ≤ q / 64 ∧ q / 64 < k) ↔ (X.F ≤ q / 64 ∧ ((q / 64 : Nat) : Int) ≤ X.l) := by omega
            simp only [this]
          clear HB rk hsv
          have cg := sk.cg
          have g11 := sk.pg.chars
          go_wp2_with fail
          refine (search_any X.w.heap.size (X.w.heap.size + 1) X.g X.cb X.cap X.c X.cs wr sk.pg.clen cg sk.cc g11 sk.pg.ccs sk.pg.sorted).mono ?_
          rintro e w' ⟨⟨q0, rfl⟩, r, rfl, hr0, hr1, hr2⟩
          have s3 := sk.drewN q0
          have HR1 := hide hr1
          have HR2 := hide hr2
          clear sk hr1 hr2 cg g11
          generalize wr.drewN q0 = wr3 at *
          have cg := s3.cg
          have cc := s3.cc
          have g11 := s3.pg.chars
          have clen := s3.pg.clen
          go_upto_region 11 with fail
          go_cut [89] (fun s89 wx => SS X 0 (-1) (List.replicate X.n 0) zk wx ∧ s89 = .bool (decide (r < X.cs.length ∧ X.cs.getD r 0 = X.c)))
          case first =>
            as_aux_lemma =>
              by_cases h1 : r < X.cs.length
              · obtain ⟨y, hy⟩ : ∃ y, y = X.cs.getD r 0 := ⟨_, rfl⟩
                have e1 := s3.pg.ccs r h1
                rw [Nat.zero_add, ← hy] at e1
                have h1' : (r : Int) < (X.cs.length : Int) := by omega
                have h1'' : decide ((r : Int) < (X.cs.length : Int)) = true := by simpa using h1'
                by_cases h2 : y = X.c
                · have HD := hide (show decide (r < X.cs.length ∧ X.cs.getD r 0 = X.c) = true from decide_eq_true ⟨h1, by rw [← hy]; exact h2⟩)
                  have h3 : (y == X.c) = true := by simpa using h2
                  clear h2 hy
                  go_quiet (fail)
                  go_wp2
                  go_meet
                  exact ⟨s3.drewN _, by rw [HD.out]⟩
                · have HD := hide (show decide (r < X.cs.length ∧ X.cs.getD r 0 = X.c) = false from decide_eq_false (fun h => h2 (by rw [hy]; exact h.2)))
                  have h3 : (y == X.c) = false := by simpa using h2
                  clear h2 hy
                  go_quiet (fail)
                  go_wp2
                  go_meet
                  exact ⟨s3.drewN _, by rw [HD.out]⟩
              · have HD := hide (show decide (r < X.cs.length ∧ X.cs.getD r 0 = X.c) = false from decide_eq_false (fun h => h1 h.1))
                have h1'' : decide ((r : Int) < (X.cs.length : Int)) = false := by simp; omega
                have h1' : decide (r < X.cs.length) = false := by simpa using h1
                have h1''' : ¬ ((r : Int) < (X.cs.length : Int)) := by omega
                clear h1
                go_quiet (fail)
                go_wp2
                go_meet
                exact ⟨s3.drewN _, by rw [HD.out]⟩
          case rest =>
          focus
            obtain ⟨s4, rfl⟩ := hcut
            clear s3 cg cc g11
            go_upto_if 89 with fail
            go_cut [] (fun wx => ∃ zm', SS X 0 (-1) (List.replicate X.n 0) zm' wx ∧ Hid (∀ q, bo zm' q = true ↔ (bo zk q = true ∨ X.Hit q)))
            case first =>
              focus
                by_cases hf : r < X.cs.length ∧ X.cs.getD r 0 = X.c
                · have hd := decide_eq_true hf
                  obtain ⟨a, cap', e1, e2, e3⟩ := s4.pg.elem r hf.1
                  have hpl := s4.pg.plen r hf.1
                  have HP := hide (hit_of X r hf.1 hf.2 s4.pg.sorted)
                  have cg := s4.cg
                  have g12 := s4.pg.places
                  have n0 := s4.ns.c0
                  have hr1' : (r : Int) < (X.cs.length : Int) := by omega
                  have e1' : wc.cell? ⟨X.ip, r * 2, none⟩ = some (.slice a (X.pl r).length cap') := by rw [Nat.mul_comm]; exact e1
                  have e2' : wc.cell? ⟨X.ip, r * 2 + 1, none⟩ = some (.slice none 0 0) := by rw [Nat.mul_comm]; exact e2
                  have HC := hide (fun q => read_any X.ip (r * 2) X.mm X.nm X.n (X.pl r).length cap' a X.F X.l zk X.zn (X.pl r) (wc.drewN q) e1' e2' rfl hpl.1
                    (fun k hk => by obtain ⟨ab, f1, f2, f3, f4⟩ := e3 k hk; exact ⟨ab, f1, fun e => f2 (by rw [e]; simp [Cx.S]), f3, f4⟩) s4.mm s4.nm (fun e => ok.d2 (by rw [e]; simp [Cx.S])) s4.lm ok.hzn s4.wm ok.hwn hn (fun p hp => by have := hpl.2 p hp; omega))
                  have HZL := hide s4.lm
                  clear e1 e2 e1' e2' e3
                  rw [hd]
                  clear hd
                  go_wp2_with fail
                  go_region_with (go_at_call 23; refine (HC.out 1).mono ?_; rintro e w' ⟨rfl, r1, k1⟩)
                  all_goals
                    go_wp2
                    go_meet
                    exact ⟨rd X.zn zk (X.pl r), (s4.drewN 1).upd ok (k1.mono (by simp [Cx.S])) ((s4.drewN 1).xs.kept k1 (by have := ok.d4; simpa using this)) ((s4.drewN 1).xm.kept k1 (by have := ok.d5; simpa using this)) r1 s4.lx (by rw [rd_len]; exact s4.lm) s4.wx (rd_wf _ _ _ s4.wm), read_hit X r zk s4.lm hpl.2 HP.out⟩
                · have hd := decide_eq_false hf
                  have HN := hide (hit_none X r hf HR1.out HR2.out s4.pg.sorted)
                  rw [hd]
                  clear hd hf
                  go_wp2
                  go_meet
                  exact ⟨zk, s4, fun q => ⟨Or.inl, fun h => h.elim id (fun h => absurd h (HN.out q))⟩⟩
            case rest =>
            as_aux_lemma =>
              obtain ⟨zm', s5, HM⟩ := hcut
              clear s4
              have cg := s5.cg
              have g1 := s5.pg.classes
              have x1 := s5.xs.c1
              have x2 := s5.xs.c2
              have xf1 := s5.xs.frozen 1
              have xf2 := s5.xs.frozen 2
              have s6 := s5.upd (W' := (wc.setCell ⟨X.xs, 1, none⟩ (.int .i64 X.F)).setCell ⟨X.xs, 2, none⟩ (.int .i64 X.l)) ok ((((Kept.refl wc X.S).setCell (p := ⟨X.xs, 1, none⟩) (Or.inl (by simp [Cx.S])) _).setCell (p := ⟨X.xs, 2, none⟩) (Or.inl (by simp [Cx.S])) _)) ((s5.xs.set1 _).set2 _)
                ((s5.xm.setOther (p := ⟨X.xs, 1, none⟩) ok.d3 _).setOther (p := ⟨X.xs, 2, none⟩) ok.d3 _) ((s5.mm.setOther (p := ⟨X.xs, 1, none⟩) ok.d4 _).setOther (p := ⟨X.xs, 2, none⟩) ok.d4 _) s5.lx s5.lm s5.wx s5.wm
              clear s5
              go_wp2
              refine wp_loop_rounds 1 ?_
              rw [rounds_succ]
              go_wp2
              clear cg g1 x1 x2 xf1 xf2
              generalize (wc.setCell ⟨X.xs, 1, none⟩ (.int .i64 X.F)).setCell ⟨X.xs, 2, none⟩ (.int .i64 X.l) = W6 at *
              have hl0 := ok.hl0
              have HM2 : Hid (∀ q, X.F ≤ q / 64 → ((q / 64 : Nat) : Int) ≤ X.l → (bo zm' q = true ↔ X.Hit q)) := by
                intro q h1 h2
                have e1 := HM.out q
                have e2 := HZ.out q
                rw [e2, decide_eq_true (⟨h1, h2⟩ : X.F ≤ q / 64 ∧ ((q / 64 : Nat) : Int) ≤ X.l)] at e1
                simpa using e1
              go_loopw [17, 18] (fun s17 s18 wr => ∃ (k : Nat) (zk' : List Int) (L : Int), s17 = .int .i64 0 ∧ s18 = .int .i64 k ∧ SS X X.F L zk' zm' wr ∧ X.F ≤ k ∧ X.l ≤ L ∧ (k : Int) ≤ max (X.F : Int) (L + 1) ∧ L < X.n ∧
                  Hid ((∀ q, X.Hit q → ((q / 64 : Nat) : Int) = X.l → q % 64 = 63 → X.l < k → L = X.l + 1) ∧ (L = X.l ∨ (L = X.l + 1 ∧ X.l < k ∧ ∃ q, X.Hit q))) ∧ Hid (NX X.Hit k zk'))
                (fun _ s18 _ => X.n + 1 - (intOf s18).toNat)
              case atStart => exact ⟨X.F, List.replicate X.n 0, X.l, rfl, rfl, s6, Nat.le_refl _, Int.le_refl _, by omega, hl1, ⟨fun q h1 h2 h3 h4 => by have := hH q h1; omega, Or.inl rfl⟩, nx_start _ _ _ (fun q h => (hH q h).1)⟩
              case round =>
                as_aux_lemma =>
                  obtain ⟨k3, zk', L, rfl, rfl, sk, hkF, hlL, hkL, hLn, HL, HX⟩ := hrel
                  clear s6
                  have cg := sk.cg
                  have x0 := sk.xs.c0
                  have x2 := sk.xs.c2
                  by_cases hlt : (k3 : Int) ≤ L
                  · have hk0 : (0 : Int) ≤ (k3 : Int) := by omega
                    have hkn : (k3 : Int) < (X.n : Int) := by omega
                    have cx := sk.xm.cell k3 (by rw [sk.lx]; omega)
                    have bx := wf_getD sk.wx k3
                    obtain ⟨x, hx⟩ := Int.eq_ofNat_of_zero_le bx.1
                    rw [hx] at cx bx
                    have HXX : Hid (zk'.getD k3 0 = (x : Int)) := hx
                    have HBX : Hid (x < 18446744073709551616) := by show x < _; omega
                    clear hx bx
                    go_upto_if 162 with fail
                    go_cut [19] (fun s19 wx => ∃ (z : Nat) (zc : List Int) (L' : Int), s19 = .int .u64 z ∧ SS X X.F L' zc zm' wx ∧ X.l ≤ L' ∧ ((k3 + 1 : Nat) : Int) ≤ max (X.F : Int) (L' + 1) ∧ L' < X.n ∧
                      Hid ((∀ q, X.Hit q → ((q / 64 : Nat) : Int) = X.l → q % 64 = 63 → X.l < ((k3 + 1 : Nat) : Int) → L' = X.l + 1) ∧ (L' = X.l ∨ (L' = X.l + 1 ∧ X.l < ((k3 + 1 : Nat) : Int) ∧ ∃ q, X.Hit q))) ∧ Hid (z < 18446744073709551616 ∧ NX X.Hit (k3 + 1) (zc.set k3 (z : Int))))
                    case first =>
                      as_aux_lemma =>
                        by_cases hin : (k3 : Int) ≤ X.l
                        · have g4 := sk.pg.stars
                          have c4 := rep_cell sk.pg.rst k3 (by omega)
                          have cm := sk.mm.cell k3 (by rw [sk.lm]; omega)
                          have bm := wf_getD sk.wm k3
                          obtain ⟨m, hm⟩ := Int.eq_ofNat_of_zero_le bm.1
                          rw [hm] at cm bm
                          have HMM : Hid (zm'.getD k3 0 = (m : Int)) := hm
                          have am := and0 (m : Int) bm
                          have an := andNot_zero m (by omega)
                          have HBM : Hid (m < 18446744073709551616) := by show m < _; omega
                          obtain ⟨y, hy⟩ : ∃ y : Nat, y = m * 2 % 18446744073709551616 := ⟨_, rfl⟩
                          have hw1 := shl1 m y hy
                          have hw2 := zero_or y (by omega)
                          obtain ⟨z, hz⟩ : ∃ z : Nat, z = x ||| y := ⟨_, rfl⟩
                          have hw3 := or_nat x y HBX.out (by omega)
                          rw [← hz] at hw3
                          have HZZ : Hid (z = x ||| m * 2 % 18446744073709551616) := by show z = _; rw [hz, hy]
                          clear hm bm hy hz
                          go_upto_region 28 with fail
                          go_cut [19] (fun s19 wx => wr = wx ∧ s19 = .int .u64 (z : Int))
                          case first =>
                            go_wp2
                            go_meet
                            exact ⟨rfl, rfl⟩
                          case rest =>
                          as_aux_lemma =>
                            obtain ⟨rfl, rfl⟩ := hcut
                            go_upto_region 29 with fail
                            go_cut [192] (fun s192 wx => wr = wx ∧ s192 = .bool (m.testBit 63))
                            case first =>
                              cases h63 : m.testBit 63
                              · have e63 : (m : Int) / 9223372036854775808 = 0 := top_no m HBM.out h63
                                go_wp2
                                go_meet
                                exact ⟨rfl, by rw [h63]⟩
                              · have e63 : (m : Int) / 9223372036854775808 = 1 := top_yes m HBM.out h63
                                go_wp2
                                go_meet
                                exact ⟨rfl, by rw [h63]⟩
                            case rest =>
                            as_aux_lemma =>
                              obtain ⟨rfl, rfl⟩ := hcut
                              have HLL : Hid (L = X.l) := by
                                show L = X.l
                                rcases HL.out.2 with h | ⟨h1, h2, _⟩
                                · exact h
                                · omega
                              have HHM : Hid (m.testBit 63 = true ↔ X.Hit (64 * k3 + 63)) := by
                                show _ ↔ _
                                rw [← HM2.out (64 * k3 + 63) (by omega) (by omega)]
                                unfold bo
                                rw [show (64 * k3 + 63) / 64 = k3 by omega, show (64 * k3 + 63) % 64 = 63 by omega, HMM.out]
                                rfl
                              have HMK : Hid (∀ q, q / 64 = k3 → (bo zm' q = true ↔ X.Hit q)) := fun q hq => HM2.out q (by omega) (by omega)
                              have HZB : Hid (z < 18446744073709551616) := by
                                show z < _
                                rw [HZZ.out]
                                exact Nat.or_lt_two_pow (n := 64) HBX.out (Nat.mod_lt _ (by decide))
                              clear g4 c4 cm am an hw1 hw2 hw3 cx cg x0 x2
                              cases h63 : m.testBit 63
                              · have H63 := hide h63
                                clear h63
                                go_wp2
                                go_meet
                                refine ⟨z, zk', L, rfl, sk, hlL, by omega, hLn, ⟨fun q h1 h2 h3 h4 => ?_, Or.inl HLL.out⟩, HZB.out, ?_⟩
                                · exfalso
                                  have e : q = 64 * k3 + 63 := by omega
                                  rw [e] at h1
                                  have := HHM.out.2 h1
                                  rw [H63.out] at this
                                  cases this
                                · rw [HZZ.out]
                                  exact nx_round X.Hit k3 X.n x m zk' zk' zm' sk.lx (by omega) HXX.out HMM.out HX.out HMK.out (Or.inr ⟨H63.out, rfl⟩)
                              · have H63 := hide h63
                                clear h63
                                have hh := HHM.out.1 H63.out
                                have hpn : 64 * k3 + 63 + 1 < 64 * X.n := by
                                  obtain ⟨_, i, hi, _, hq⟩ := hh
                                  exact (sk.pg.plen i hi).2 _ hq
                                have HH := hide hh
                                clear hh
                                obtain ⟨P, hP⟩ : ∃ P : Nat, P = 64 * (k3 + 1) := ⟨_, rfl⟩
                                have hw1 : IntKind.i32.wrap ((k3 : Int) + 1) = (k3 : Int) + 1 := wrap32_small _ (by omega) (by omega)
                                have hw2 : IntKind.i32.wrap (((k3 : Int) + 1) * 64) = (P : Int) := by rw [wrap32_small _ (by omega) (by omega)]; omega
                                have HPP := hide hP
                                have hPn : P < 64 * X.n := by omega
                                have HP6 : Hid ((P : Int) / 64 = (k3 : Int) + 1) := by show (P : Int) / 64 = _; omega
                                clear hP
                                go_wp2_with fail
                                refine (add_any X.xs X.xm X.n P X.F L zk' _ sk.xs sk.xm sk.lx sk.wx hPn hn (by omega) ok.d3).mono ?_
                                rintro e w' ⟨rfl, a1, a2, a3⟩
                                rw [HP6.out] at a1
                                clear hw1 hw2
                                go_wp2
                                go_meet
                                refine ⟨z, sb zk' P, max L ((k3 : Int) + 1), rfl, sk.upd ok (a3.mono (by simp [Cx.S])) a1 a2 (sk.mm.kept a3 (by have := ok.d4; have := ok.d5; simp; omega)) (by rw [len_sb]; exact sk.lx) sk.lm (wf_sb sk.wx _) sk.wm, by omega, by omega, by omega, ⟨fun q h1 h2 h3 h4 => ?_, ?_⟩, HZB.out, ?_⟩
                                · have := HLL.out; omega
                                · have := HLL.out
                                  by_cases c : (k3 : Int) = X.l
                                  · exact Or.inr ⟨by omega, by omega, _, HH.out⟩
                                  · exact Or.inl (by omega)
                                · rw [HZZ.out]
                                  exact nx_round X.Hit k3 X.n x m zk' _ zm' sk.lx (by omega) HXX.out HMM.out HX.out HMK.out (Or.inl ⟨H63.out, by rw [HPP.out], by omega⟩)
                        · have HLL : Hid (L = X.l + 1 ∧ (k3 : Int) = X.l + 1 ∧ ∃ q, X.Hit q) := by
                            show L = X.l + 1 ∧ _
                            rcases HL.out.2 with h | ⟨h1, h2, h3⟩
                            · omega
                            · exact ⟨by omega, by omega, h3⟩
                          clear cx cg x0 x2
                          go_wp2
                          go_meet
                          refine ⟨x, zk', L, rfl, sk, hlL, by omega, hLn, ⟨fun q h1 h2 h3 h4 => HLL.out.1, Or.inr ⟨HLL.out.1, by omega, HLL.out.2.2⟩⟩, HBX.out, ?_⟩
                          rw [← HXX.out, set_getD_self]
                          exact nx_last X.Hit k3 zk' HX.out (fun q h => by have := (hH q h).2; omega)
                    case rest =>
                    as_aux_lemma =>
                      obtain ⟨z, zc, L', rfl, s7, hlL', hkL', hLn', HL', HZ'⟩ := hcut
                      clear sk cx cg x0 x2
                      have cg := s7.cg
                      have x0 := s7.xs.c0
                      have g4 := s7.pg.stars
                      have g7 := s7.pg.jumps
                      have c4 := rep_cell s7.pg.rst k3 (by omega)
                      have c7 := rep_cell s7.pg.rjb k3 (by omega)
                      have cx := s7.xm.cell k3 (by rw [s7.lx]; omega)
                      have fx := s7.xm.frozen k3
                      have az := and0 (z : Int) (by have := HZ'.out.1; omega)
                      have oz := or_zero z HZ'.out.1
                      generalize zc.getD k3 0 = old at *
                      have s8 := s7.upd (W' := wc.setCell ⟨X.xm, k3, none⟩ (.int .u64 z)) ok ((Kept.refl wc X.S).setCell (p := ⟨X.xm, k3, none⟩) (Or.inl (by simp [Cx.S])) _) (s7.xs.setOther (p := ⟨X.xm, k3, none⟩) (fun e => ok.d3 e.symm) _)
                        (s7.xm.set k3 (by rw [s7.lx]; omega) z) (s7.mm.setOther (p := ⟨X.xm, k3, none⟩) ok.d5 _) (by simpa using s7.lx) s7.lm (wf_set s7.wx _ _ (by omega) (by have := HZ'.out.1; omega)) s7.wm
                      have HNX := hide HZ'.out.2
                      clear s7 HX HL HZ'
                      go_wp2
                      go_roundw
                      case rel => exact ⟨k3 + 1, zc.set k3 z, L', rfl, by go_num, s8, by omega, hlL', hkL', hLn', HL'.out, HNX.out⟩
                      case measure => simp [intOf]; omega
                  · as_aux_lemma =>
                      have g8 := sk.pg.covers
                      have HNE := hide (nx_end X.Hit k3 X.l L zk' HX.out (fun q h => (hH q h).2) (by omega) hlL (fun q h1 h2 h3 => HL.out.1 q h1 h2 h3 (by omega)))
                      have HLE : Hid (L = X.l ∨ (L = X.l + 1 ∧ ∃ q, X.Hit q)) := by
                        rcases HL.out.2 with h | ⟨h1, _, h3⟩
                        · exact Or.inl h
                        · exact Or.inr ⟨h1, h3⟩
                      have HME : Hid (∀ q, bo zm' q = true ↔ ((bo zm q = true ∧ ¬ (X.F ≤ q / 64 ∧ ((q / 64 : Nat) : Int) ≤ X.l)) ∨ X.Hit q)) := by
                        intro q
                        rw [HM.out q, HZ.out q]
                        simp only [Bool.and_eq_true, Bool.not_eq_true', decide_eq_false_iff_not]
                      have HQL : Hid (∀ q, X.Hit q → (((q + 1) / 64 : Nat) : Int) ≤ L) := by
                        intro q h
                        have h2 := (hH q h).2
                        by_cases c : q % 64 = 63
                        · by_cases d : ((q / 64 : Nat) : Int) = X.l
                          · have := HL.out.1 q h d c (by omega)
                            omega
                          · omega
                        · omega
                      clear HX HL
                      go_wp2_with fail
                      refine (trim_any X.xs X.xm X.n X.F L zk' wr sk.xs sk.xm sk.lx hn hF (by omega) hLn ok.d3).mono ?_
                      rintro e W9 ⟨rfl, f', l', ts, tr, tk, t1, t2, t3, t4, t5, t6, t7, t8⟩
                      have s9 := sk.upd ok (tk.mono (by simp [Cx.S])) ts tr (sk.mm.kept tk (by have := ok.d4; have := ok.d5; simp; omega)) sk.lx sk.lm sk.wx sk.wm
                      have HT := hide (And.intro t5 (And.intro t6 (And.intro t7 t8)))
                      clear sk g8 cg x0 x2 ts tr tk t5 t6 t7 t8
                      have cg := s9.cg
                      have x2 := s9.xs.c2
                      have g1 := s9.pg.classes
                      go_wp2
                      go_region
                      go_wp2
                      go_ret
                      refine ⟨_, rfl, zm', zk', L, f', l', by omega, s9.mm, s9.lm, s9.wm, HME.out, s9.xs, s9.xm, s9.lx, s9.wx, HNE.out, s9.kept.drew, hlL, hLn, HLE.out, HQL.out, t1, t2, t3, t4, HT.out.1, HT.out.2.1, HT.out.2.2.1, HT.out.2.2.2⟩

end Gl
end Go.Proofs.Qxb6615024aDoor
