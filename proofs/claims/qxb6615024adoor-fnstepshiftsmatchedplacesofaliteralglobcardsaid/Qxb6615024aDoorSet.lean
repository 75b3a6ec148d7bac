/-
  THE WALKS of the set's methods: add, reset, trim.
-/
import Derived.Test.Qxb6615024aDoorSmall
import Derived.LoopTactic
namespace Go.Proofs.Qxb6615024aDoor
open Go.RowKit
set_option linter.unusedVariables false
namespace Gl

set_option maxHeartbeats 800000 in
set_option maxRecDepth 100000 in
/-- add, at a set that is not empty -/
theorem add_any (s m n p : Nat) (f l : Int) (zs : List Int) (w : World) (hs : SetAt w s m n f l) (hr : Row w .u64 30 m n zs) (hz : zs.length = n) (hwf : WF zs) (hp : p < 64 * n) (hn : n ≤ 4096) (hfl : f ≤ l) (hsm : s ≠ m) :
    Calls Tryd.prog 25 #[.pointer (some ⟨s, 0, none⟩), .int .i32 p] w fun e w' => e = .returned (.tuple #[]) ∧ SetAt w' s m n f (max l ((p : Int) / 64)) ∧ Row w' .u64 30 m n (sb zs p) ∧ Kept w w' [s, m] := by
  have h0 := hs.c0
  have h2 := hs.c2
  have hf2 := hs.frozen 2
  have hlt : decide (l < f) = false := by simpa using hfl
  have HC : Hid (Calls Tryd.prog 31 #[.pointer (some ⟨s, 0, none⟩)] w fun e w' => e = .returned (.bool (decide (l < f))) ∧ w' = w.drew) := empty_any s m n f l w hs
  by_cases c : l < (p : Int) / 64
  · have hmax : max l ((p : Int) / 64) = (p : Int) / 64 := by omega
    rw [hmax]
    have hs1 : SetAt (w.setCell ⟨s, 2, none⟩ (.int .i64 ((p : Int) / 64))).drew s m n f ((p : Int) / 64) := (hs.set2 _).drew
    have hr1 : Row (w.setCell ⟨s, 2, none⟩ (.int .i64 ((p : Int) / 64))).drew .u64 30 m n zs := (hr.setOther (p := ⟨s, 2, none⟩) hsm _).drew
    have hk1 : Kept w (w.setCell ⟨s, 2, none⟩ (.int .i64 ((p : Int) / 64))).drew [s, m] := ((Kept.refl w [s, m]).setCell (Or.inl (by simp)) _).drew
    clear hs hr
    go_enter Tryd.func25, Tryd.ntmps25
    go_wp2_with fail
    refine (HC.out).mono ?_
    rintro e w1 ⟨rfl, rfl⟩
    rw [hlt]
    go_wp2_with fail
    refine (setBit_any m n n p zs _ hr1 hz hwf hp hn).mono ?_
    rintro e w1 ⟨rfl, r1, k1⟩
    go_wp2
    go_end0
    exact ⟨rfl, hs1.kept k1 (by simpa using hsm), r1, hk1.trans (k1.mono (by simp))⟩
  · have hmax : max l ((p : Int) / 64) = l := by omega
    rw [hmax]
    go_enter Tryd.func25, Tryd.ntmps25
    go_wp2_with fail
    refine (HC.out).mono ?_
    rintro e w1 ⟨rfl, rfl⟩
    rw [hlt]
    go_wp2_with fail
    refine (setBit_any m n n p zs _ hr.drew hz hwf hp hn).mono ?_
    rintro e w1 ⟨rfl, r1, k1⟩
    go_wp2
    go_end0
    exact ⟨rfl, hs.drew.kept k1 (by simpa using hsm), r1, (Kept.refl w [s, m]).drew.trans (k1.mono (by simp))⟩

theorem all_zero (zs : List Int) (n : Nat) (hl : zs.length = n) (h : ∀ i, i < n → zs.getD i 0 = 0) : zs = List.replicate n 0 := by
  apply List.ext_getElem (by simpa using hl)
  intro i h1 h2
  have := h i (by omega)
  simp [List.getD_eq_getElem?_getD, h1] at this
  simp [this]

set_option maxHeartbeats 800000 in
set_option maxRecDepth 100000 in
theorem reset_any (s m n F : Nat) (l : Int) (zs : List Int) (w : World) (hs : SetAt w s m n F l) (hr : Row w .u64 30 m n zs) (hz : zs.length = n) (hn : n ≤ 4096) (hF : F ≤ n) (hl0 : -1 ≤ l) (hl1 : l < n) (hsm : s ≠ m)
    (ho : ∀ i, i < n → ((i : Int) < F ∨ l < i) → zs.getD i 0 = 0) :
    Calls Tryd.prog 20 #[.pointer (some ⟨s, 0, none⟩)] w fun e w' => e = .returned (.tuple #[]) ∧ SetAt w' s m n 0 (-1) ∧ Row w' .u64 30 m n (List.replicate n 0) ∧ Kept w w' [s, m] := by
  have h1 := hs.c1
  go_enter Tryd.func20, Tryd.ntmps20
  go_wp2
  go_loopw [2] (fun i wr => ∃ (k : Nat) (zk : List Int), F ≤ k ∧ k ≤ n ∧ i = .int .i64 k ∧ SetAt wr s m n F l ∧ Row wr .u64 30 m n zk ∧ zk.length = n ∧ Kept w wr [s, m] ∧
      Hid (∀ i, i < n → ((i : Int) < k ∨ l < i) → zk.getD i 0 = 0)) (fun i _ => n + 1 - (intOf i).toNat)
  case atStart => exact ⟨F, zs, Nat.le_refl _, hF, rfl, hs, hr, hz, Kept.refl _ _, ho⟩
  case round =>
    obtain ⟨k, zk, hk0, hk1, rfl, hsk, hrk, hzk, hkk, HO⟩ := hrel
    have g0 := hsk.c0
    have g2 := hsk.c2
    by_cases hlt : (k : Int) ≤ l
    · have hc := hrk.cell k (by omega)
      have hf := hrk.frozen k
      have hset := hrk.set k (by omega) 0
      clear h1 hr hs ho
      go_wp2
      go_roundw
      case rel =>
        refine ⟨k + 1, zk.set k 0, by omega, by omega, by go_num, hsk.setOther (p := ⟨m, k, none⟩) (fun e => hsm e.symm) _, hset, by simpa using hzk, hkk.setCell (Or.inl (by simp)) _, ?_⟩
        intro i hi hio
        by_cases e : k = i
        · subst e; exact getD_set_eq _ _ _ (by omega)
        · rw [getD_set_ne _ _ _ _ e]; exact HO.out i hi (by omega)
      case measure => simp [intOf]; omega
    · have gf1 := hsk.frozen 1
      have gf2 := hsk.frozen 2
      have g1 := hsk.c1
      have hfin : zk = List.replicate n 0 := all_zero zk n hzk (fun i hi => HO.out i hi (by omega))
      have HF : Hid (zk = List.replicate n 0) := hfin
      clear h1 hr hs ho hfin
      go_wp2
      go_end0
      refine ⟨rfl, (hsk.set1 0).set2 (-1), ?_, (hkk.setCell (Or.inl (by simp)) _).setCell (Or.inl (by simp)) _⟩
      rw [← HF.out]
      exact (hrk.setOther (p := ⟨s, 1, none⟩) hsm _).setOther (p := ⟨s, 2, none⟩) hsm _


/-- what trim leaves: first has moved up past noughts, last down -/
def Trimmed (s m n F : Nat) (l : Int) (zs : List Int) (w w' : World) : Prop :=
  ∃ (f' : Nat) (l' : Int), SetAt w' s m n f' l' ∧ Row w' .u64 30 m n zs ∧ Kept w w' [s, m] ∧
    F ≤ f' ∧ (f' : Int) ≤ max (F : Int) (l + 1) ∧ l' ≤ l ∧ min l ((f' : Int) - 1) ≤ l' ∧ (∀ i : Nat, F ≤ i → i < f' → zs.getD i 0 = 0) ∧ (∀ i : Nat, l' < i → (i : Int) ≤ l → zs.getD i 0 = 0) ∧
    ((f' : Int) ≤ l → zs.getD f' 0 ≠ 0) ∧ ((f' : Int) ≤ l' → zs.getD l'.toNat 0 ≠ 0)

set_option maxHeartbeats 1600000 in
set_option maxRecDepth 100000 in
theorem trim_any (s m n F : Nat) (l : Int) (zs : List Int) (w : World) (hs : SetAt w s m n F l) (hr : Row w .u64 30 m n zs) (hz : zs.length = n) (hn : n ≤ 4096) (hF : F ≤ n) (hl0 : -1 ≤ l) (hl1 : l < n) (hsm : s ≠ m) :
    Calls Tryd.prog 28 #[.pointer (some ⟨s, 0, none⟩)] w fun e w' => e = .returned (.tuple #[]) ∧ Trimmed s m n F l zs w w' := by
  have h1 := hs.c1
  have h2 := hs.c2
  have hcl := hr.cl
  go_enter Tryd.func28, Tryd.ntmps28
  go_wp2
  go_region
  go_wp2
  have h0 : w.drew.cell? ⟨s, 0, none⟩ = some (.slice (some ⟨m, 0, none⟩) n n) := hs.c0
  go_loop [2] (fun i => ∃ k : Nat, F ≤ k ∧ (k : Int) ≤ max (F : Int) (l + 1) ∧ i = .int .i64 k ∧ Hid (∀ i : Nat, F ≤ i → i < k → zs.getD i 0 = 0)) (fun i => n + 1 - (intOf i).toNat)
  case atStart => exact ⟨F, Nat.le_refl _, by omega, rfl, fun i h h' => by omega⟩
  case round =>
    obtain ⟨k, hk0, hk1, rfl, HO⟩ := hrel
    by_cases hlt : (k : Int) ≤ l
    · have hc : w.drew.cell? ⟨m, k, none⟩ = some (.int .u64 (zs.getD k 0)) := hr.cell k (by omega)
      generalize hx : zs.getD k 0 = x at *
      have HX : Hid (zs.getD k 0 = x) := hx
      clear hx
      by_cases hx0 : x = 0
      · subst hx0
        go_wp2
        go_round
        case rel =>
          refine ⟨k + 1, by omega, by omega, by go_num, ?_⟩
          intro i hi hi'
          by_cases e : i = k
          · subst e; exact HX.out
          · exact HO.out i hi (by omega)
        case measure => simp [intOf]; omega
      · have hxb : (x == 0) = false := by simpa using hx0
        go_wp2
        go_loop [3] (fun j => ∃ t : Nat, k ≤ t ∧ (t : Int) ≤ l ∧ j = .int .i64 t ∧ Hid (∀ i : Nat, t < i → (i : Int) ≤ l → zs.getD i 0 = 0)) (fun j => (intOf j).toNat)
        case atStart => exact ⟨l.toNat, by omega, by omega, by rw [show ((l.toNat : Nat) : Int) = l by omega], fun i h h' => by omega⟩
        case round =>
          obtain ⟨t, ht0, ht1, rfl, HT⟩ := hrel
          have hct : w.drew.cell? ⟨m, t, none⟩ = some (.int .u64 (zs.getD t 0)) := hr.cell t (by omega)
          generalize hy : zs.getD t 0 = y at *
          have HY : Hid (zs.getD t 0 = y) := hy
          clear hy
          by_cases hy0 : y = 0
          · have htk : k < t := by
              rcases Nat.lt_or_ge k t with h | h
              · exact h
              · exfalso
                have e : t = k := by omega
                have e1 := HX.out
                have e2 := HY.out
                rw [e] at e2
                exact hx0 (by rw [← e1, e2, hy0])
            subst hy0
            go_wp2
            go_round
            case rel =>
              refine ⟨t - 1, by omega, by omega, by go_num, ?_⟩
              intro i hi hi'
              by_cases e : i = t
              · subst e; exact HY.out
              · exact HT.out i (by omega) hi'
            case measure => simp [intOf]; omega
          · have hyb : (y == 0) = false := by simpa using hy0
            have gf1 := hs.frozen 1
            have gf2 := hs.frozen 2
            clear hcl
            go_wp2
            go_end0
            refine ⟨rfl, k, t, ?_, ?_, ?_, hk0, hk1, by omega, by omega, HO.out, fun i h h' => HT.out i (by omega) h', fun _ => ?_, fun _ => ?_⟩
            · exact (hs.drew.set1 _).set2 _
            · exact (hr.drew.setOther (p := ⟨s, 1, none⟩) hsm _).setOther (p := ⟨s, 2, none⟩) hsm _
            · exact ((Kept.refl w [s, m]).drew.setCell (Or.inl (by simp)) _).setCell (Or.inl (by simp)) _
            · rw [HX.out]; exact hx0
            · rw [Int.toNat_natCast, HY.out]; exact hy0
    · have hlt' : l < (k : Int) := by omega
      have gf1 := hs.frozen 1
      have gf2 := hs.frozen 2
      clear hcl
      go_wp2
      refine wp_loop_rounds 1 ?_
      rw [rounds_succ]
      go_wp2
      go_end0
      refine ⟨rfl, k, l, ?_, ?_, ?_, hk0, hk1, by omega, by omega, HO.out, fun i h h' => by omega, fun h => by omega, fun h => by omega⟩
      · exact (hs.drew.set1 _).set2 _
      · exact (hr.drew.setOther (p := ⟨s, 1, none⟩) hsm _).setOther (p := ⟨s, 2, none⟩) hsm _
      · exact ((Kept.refl w [s, m]).drew.setCell (Or.inl (by simp)) _).setCell (Or.inl (by simp)) _

end Gl
end Go.Proofs.Qxb6615024aDoor
