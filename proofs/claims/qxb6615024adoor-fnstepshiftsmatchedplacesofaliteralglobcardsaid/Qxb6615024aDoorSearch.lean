/-
  THE WALKS of sort.Search with step's closure, and of readInto.
-/
import Derived.Test.Qxb6615024aDoorSet
import Derived.Sort.Walk0
import Derived.Shelf.RegionOpenPlain
namespace Go.Proofs.Qxb6615024aDoor
open Go.RowKit
set_option linter.unusedVariables false
namespace Gl

set_option maxHeartbeats 800000 in
theorem closure_any (bg bc g cb n cap i : Nat) (c x : Int) (W : World) (hi : (i : Int) < (n : Int)) (hn : n ≤ 4096)
    (h1 : W.cell? ⟨bg, 0, none⟩ = some (.pointer (some ⟨g, 0, none⟩))) (h2 : W.cell? ⟨bc, 0, none⟩ = some (.int .i32 c))
    (h3 : W.cell? ⟨g, 11, none⟩ = some (.slice (some ⟨cb, 0, none⟩) n cap)) (h4 : W.cell? ⟨cb, i, none⟩ = some (.int .i32 x)) :
    Calls Tryd.prog 22 (#[.int .i64 i] ++ #[.pointer (some ⟨bg, 0, none⟩), .pointer (some ⟨bc, 0, none⟩)]) W fun e w' => e = .returned (.bool (decide (c ≤ x))) ∧ w' = W.drew := by
  go_enter Tryd.func22, Tryd.ntmps22
  go_wp2
  go_region
  go_wp2
  go_ret
  exact ⟨rfl, rfl⟩


set_option maxHeartbeats 1600000 in
set_option maxRecDepth 100000 in
/-- sort.Search over the ascending characters cs -/
theorem search_any (bg bc g cb cap : Nat) (c : Int) (cs : List Int) (w : World) (hn : cs.length ≤ 4096)
    (h1 : w.cell? ⟨bg, 0, none⟩ = some (.pointer (some ⟨g, 0, none⟩))) (h2 : w.cell? ⟨bc, 0, none⟩ = some (.int .i32 c))
    (h3 : w.cell? ⟨g, 11, none⟩ = some (.slice (some ⟨cb, 0, none⟩) cs.length cap)) (h4 : Cl w .i32 cb 0 cs) (hs : ∀ i j, i < j → j < cs.length → cs.getD i 0 < cs.getD j 0) :
    Calls Tryd.prog 21 #[.int .i64 cs.length, .func (.func 22) #[] #[.pointer (some ⟨bg, 0, none⟩), .pointer (some ⟨bc, 0, none⟩)]] w fun e w' => (∃ q, w' = w.drewN q) ∧
      ∃ r : Nat, e = .returned (.int .i64 r) ∧ r ≤ cs.length ∧ (∀ t, t < r → cs.getD t 0 < c) ∧ (∀ t, r ≤ t → t < cs.length → c ≤ cs.getD t 0) := by
  have HC : Hid (∀ (q i : Nat), i < cs.length → Calls Tryd.prog 22 (#[.int .i64 i] ++ #[.pointer (some ⟨bg, 0, none⟩), .pointer (some ⟨bc, 0, none⟩)]) (w.drewN q) fun e w' => e = .returned (.bool (decide (c ≤ cs.getD i 0))) ∧ w' = (w.drewN q).drew) := by
    intro q i hi
    have := h4 i hi
    rw [Nat.zero_add] at this
    exact closure_any bg bc g cb cs.length cap i c _ (w.drewN q) (by omega) hn h1 h2 h3 this
  have HS : Hid (∀ i j, i < j → j < cs.length → cs.getD i 0 < cs.getD j 0) := hs
  clear h1 h2 h3 h4 hs
  generalize hnn : cs.length = n at *
  have HN : Hid (cs.length = n) := hnn
  clear hnn
  go_enter Tryd.func21, Tryd.ntmps21
  go_wp2
  go_loopw [5, 6] (fun s5 s6 wr => ∃ (lo hi q : Nat), s5 = .int .i64 lo ∧ s6 = .int .i64 hi ∧ lo ≤ hi ∧ hi ≤ n ∧ wr = w.drewN q ∧
      Hid ((∀ t, t < lo → cs.getD t 0 < c) ∧ (∀ t, hi ≤ t → t < n → c ≤ cs.getD t 0))) (fun s5 s6 _ => (intOf s6).toNat - (intOf s5).toNat)
  case atStart => exact ⟨0, n, 0, rfl, rfl, Nat.zero_le _, Nat.le_refl _, rfl, ⟨fun t ht => absurd ht (Nat.not_lt_zero _), fun t h1 h2 => by omega⟩⟩
  case round =>
    obtain ⟨lo, hi, q, rfl, rfl, hlh, hin, rfl, I⟩ := hrel
    by_cases hlt : lo < hi
    · have hc := HC.out q ((lo + hi) / 2) (by omega)
      rw [show (((lo + hi) / 2 : Nat) : Int) = ((lo : Int) + (hi : Int)) / 2 by omega] at hc
      by_cases hp : c ≤ cs.getD ((lo + hi) / 2) 0
      · rw [decide_eq_true hp] at hc
        have HP : Hid (c ≤ cs.getD ((lo + hi) / 2) 0) := hp
        clear hp
        have HCC : Hid (Calls Tryd.prog 22 (#[.int .i64 (((lo : Int) + (hi : Int)) / 2)] ++ #[.pointer (some ⟨bg, 0, none⟩), .pointer (some ⟨bc, 0, none⟩)]) (w.drewN q) fun e w' => e = .returned (.bool true) ∧ w' = (w.drewN q).drew) := hc
        clear hc
        go_wp2_with fail
        refine HCC.out.mono ?_
        rintro e w' ⟨rfl, rfl⟩
        go_wp2
        go_roundw
        case rel =>
          refine ⟨lo, (lo + hi) / 2, q + 1, rfl, by go_num, by omega, by omega, rfl, ⟨I.out.1, fun t h1 h2 => ?_⟩⟩
          rcases Nat.lt_or_ge ((lo + hi) / 2) t with h | h
          · have := HS.out _ t h h2; have := HP.out; omega
          · have e : t = (lo + hi) / 2 := by omega
            rw [e]; exact HP.out
        case measure => simp [intOf]; omega
      · rw [decide_eq_false hp] at hc
        have HP : Hid (¬ c ≤ cs.getD ((lo + hi) / 2) 0) := hp
        clear hp
        have HCC : Hid (Calls Tryd.prog 22 (#[.int .i64 (((lo : Int) + (hi : Int)) / 2)] ++ #[.pointer (some ⟨bg, 0, none⟩), .pointer (some ⟨bc, 0, none⟩)]) (w.drewN q) fun e w' => e = .returned (.bool false) ∧ w' = (w.drewN q).drew) := hc
        clear hc
        go_wp2_with fail
        refine HCC.out.mono ?_
        rintro e w' ⟨rfl, rfl⟩
        go_wp2
        go_roundw
        case rel =>
          refine ⟨(lo + hi) / 2 + 1, hi, q + 1, by go_num, rfl, by omega, by omega, rfl, ⟨fun t h1 => ?_, I.out.2⟩⟩
          rcases Nat.lt_or_ge t ((lo + hi) / 2) with h | h
          · have := HS.out t _ h (by omega); have := HP.out; omega
          · have e : t = (lo + hi) / 2 := by omega
            rw [e]; have := HP.out; omega
        case measure => simp [intOf]; omega
    · have e : hi = lo := by omega
      subst e
      go_wp2
      go_ret
      exact ⟨⟨q, rfl⟩, hi, rfl, hin, I.out.1, I.out.2⟩

end Gl
end Go.Proofs.Qxb6615024aDoor
