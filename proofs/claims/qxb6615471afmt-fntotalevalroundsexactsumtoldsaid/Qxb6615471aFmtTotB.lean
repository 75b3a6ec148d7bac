/-
  WHAT ZZTotalEval GIVES, of carried digits.
-/
import Derived.Test.Qxb6615471aFmtTot
namespace Go.Proofs.Qxb6615471aFmt
open Go.RowKit Go.Extern.Stop Go.Stop Go.Extern
set_option linter.unusedVariables false
namespace Fl

/-- a number, and no error; or, where it is beyond the greatest float, no value and an error -/
def TotOut (x low : Int) (e : Ending) : Prop :=
  (mg x.natAbs low ≠ 2047 * 2 ^ 52 ∧ e = .returned (.tuple #[valV 2 (fl x low), .nilIface])) ∨ (mg x.natAbs low = 2047 * 2 ^ 52 ∧ ∃ p, e = .returned (.tuple #[valV 0 0, .iface 79 (.pointer (some p))]))

theorem fl_word (x low : Int) : fl x low = Ieee.double.word (decide (x < 0)) (mg x.natAbs low) := rfl

theorem over_fl (x low : Int) (b : Bool) (hb : decide (mg x.natAbs low = 2047 * 2 ^ 52) = b) (w : World) : Calls Tryf.prog 19 #[.float .f64 (fl x low)] w fun e w' => e = .returned (.bool b) ∧ w' = w := by
  have h := over_word (decide (x < 0)) (mg x.natAbs low) w (mg_le _ _)
  rw [hb, ← fl_word] at h
  exact h

theorem total_digits (F : Interp) (D n cap : Nat) (low mi ot : Int) (zs : List Int) (w : World) (hF : F.answers w.tape) (hr : Row w .i64 2 D cap zs) (hz : zs.length = n) (hcap : cap ≤ maxLen) (hn1 : 1 ≤ n) (hn : n ≤ 1048574) (hl1 : -34 ≤ low) (hl2 : low ≤ 1048576) (c : Carried zs)
    (hx : 2 ^ (-1074 - 32 * low).toNat ∣ (val zs).natAbs) (hm : mi ≤ 0) (ho : ot ≤ 0) :
    Calls Tryf.prog 9 #[.slice (some ⟨D, 0, none⟩) n cap, .int .i64 low, .int .i64 mi, .int .i64 ot] w fun e w' => TotOut (val zs) low e ∧ Kept w w' [D] := by
  have hD := hr.lt
  obtain ⟨env, _⟩ := tw_at (some ⟨D, 0, none⟩) n cap low mi ot w
  have hk := tw_kept (some ⟨D, 0, none⟩) n cap low mi ot w
  have hsz := tw_size (some ⟨D, 0, none⟩) n cap low mi ot w
  have hfl : ∀ W', Kept (tw (some ⟨D, 0, none⟩) n cap low mi ot w) W' [] → Calls Tryf.prog 18 #[.pointer (some ⟨w.heap.size + 1, 0, none⟩)] W' fun e w' => e = .returned (.float .f64 (fl (val zs) low)) ∧ Kept W' w' [w.heap.size + 1, D] := by
    intro W' k
    have hs : SumAt W' (w.heap.size + 1) D n cap low mi ot := (k.block (w.heap.size + 1) env.ltT (by simp)).trans env.tal
    have hr' : Row W' .i64 2 D cap zs := (hr.kept hk (by simp)).kept k (by simp)
    exact float_any (w.heap.size + 1) D n cap low mi ot zs W' ⟨hs, hr', hz, by omega, hcap, Or.inl rfl, Kept.refl _ _⟩ hn1 hn hl1 hl2 c hx
  have hS : ∀ b ∈ [w.heap.size + 1, D], b ∈ [D] ∨ w.heap.size ≤ b := by simp
  have h0 : w.heap.size ∉ [w.heap.size + 1, D] := by simp; omega
  have hST : ∀ b ∈ [w.heap.size + 1, D], b < (tw (some ⟨D, 0, none⟩) n cap low mi ot w).heap.size := by
    rw [hsz]
    simp
    omega
  by_cases hov : mg (val zs).natAbs low = 2047 * 2 ^ 52
  · have hF' : F.answers (tw (some ⟨D, 0, none⟩) n cap low mi ot w).tape := by rw [hk.tape]; exact hF
    have he := eval_over F (w.heap.size + 2) (w.heap.size + 1) n cap _ low mi ot _ hF' env hm ho (fl (val zs) low) [w.heap.size + 1, D] hST (fun W => over_fl _ _ true (decide_eq_true hov) W) hfl
    refine (total_of _ n cap low mi ot w 0 0 (fun v => ∃ p, v = .iface 79 (.pointer (some p))) _ [D] (he.mono ?_) hS h0).mono ?_
    · rintro e w' ⟨p, he, hk'⟩
      exact ⟨⟨_, ⟨p, rfl⟩, he⟩, hk'⟩
    · rintro e w' ⟨⟨er, ⟨p, rfl⟩, he⟩, hk'⟩
      exact ⟨Or.inr ⟨hov, p, he⟩, hk'⟩
  · have he := eval_num (w.heap.size + 2) (w.heap.size + 1) n cap _ low mi ot _ env hm ho (fl (val zs) low) [w.heap.size + 1, D] hST (fun W => over_fl _ _ false (decide_eq_false hov) W) hfl
    refine (total_of _ n cap low mi ot w 2 (fl (val zs) low) (fun v => v = .nilIface) _ [D] (he.mono ?_) hS h0).mono ?_
    · rintro e w' ⟨he, hk'⟩
      exact ⟨⟨_, rfl, he⟩, hk'⟩
    · rintro e w' ⟨⟨er, rfl, he⟩, hk'⟩
      exact ⟨Or.inl ⟨hov, he⟩, hk'⟩

theorem total_empty (a : Option Addr) (c : Nat) (low mi ot : Int) (w : World) (hm : mi ≤ 0) (ho : ot ≤ 0) :
    Calls Tryf.prog 9 #[.slice a 0 c, .int .i64 low, .int .i64 mi, .int .i64 ot] w fun e w' => TotOut 0 low e ∧ Kept w w' [] := by
  obtain ⟨env, _⟩ := tw_at a 0 c low mi ot w
  have hfl : ∀ W', Kept (tw a 0 c low mi ot w) W' [] → Calls Tryf.prog 18 #[.pointer (some ⟨w.heap.size + 1, 0, none⟩)] W' fun e w' => e = .returned (.float .f64 0) ∧ Kept W' w' [] := by
    intro W' k
    have hb := (k.block (w.heap.size + 1) env.ltT (by simp)).trans env.tal
    refine (float_empty (w.heap.size + 1) c a W' (by rw [cell_of_row _ _ 0 _ _ _ hb]; rfl)).mono ?_
    rintro e w' ⟨he, rfl⟩
    exact ⟨he, Kept.refl _ _⟩
  have h0 : fl 0 low = 0 := by
    unfold fl mg
    rw [decide_eq_false (by omega), if_pos (by rfl)]
    rfl
  have hmg : mg (0 : Int).natAbs low ≠ 2047 * 2 ^ 52 := by
    unfold mg
    rw [if_pos (by rfl)]
    omega
  have hov := over_fl 0 low false (decide_eq_false hmg)
  rw [h0] at hov
  have he := eval_num (w.heap.size + 2) (w.heap.size + 1) 0 c _ low mi ot _ env hm ho 0 [] (by simp) hov hfl
  refine (total_of _ 0 c low mi ot w 2 0 (fun v => v = .nilIface) [] [] (he.mono ?_) (by simp) (by simp)).mono ?_
  · rintro e w' ⟨he, hk'⟩
    exact ⟨⟨_, rfl, he⟩, hk'⟩
  · rintro e w' ⟨⟨er, rfl, he⟩, hk'⟩
    exact ⟨Or.inl ⟨hmg, by rw [h0]; exact he⟩, hk'⟩

theorem total_other (F : Interp) (a : Option Addr) (n c : Nat) (low mi ot : Int) (w : World) (hF : F.answers w.tape) (ho : 0 < ot) :
    Calls Tryf.prog 9 #[.slice a n c, .int .i64 low, .int .i64 mi, .int .i64 ot] w fun e w' => (∃ p, e = .returned (.tuple #[valV 0 0, .iface 79 (.pointer (some p))])) ∧ Kept w w' [] := by
  obtain ⟨env, _⟩ := tw_at a n c low mi ot w
  have hF' : F.answers (tw a n c low mi ot w).tape := by rw [(tw_kept a n c low mi ot w).tape]; exact hF
  have he := eval_other F (w.heap.size + 2) (w.heap.size + 1) n c _ low mi ot _ hF' env ho
  refine (total_of _ n c low mi ot w 0 0 (fun v => ∃ p, v = .iface 79 (.pointer (some p))) [] [] (he.mono ?_) (by simp) (by simp)).mono ?_
  · rintro e w' ⟨p, he, hk'⟩
    exact ⟨⟨_, ⟨p, rfl⟩, he⟩, hk'⟩
  · rintro e w' ⟨⟨er, ⟨p, rfl⟩, he⟩, hk'⟩
    exact ⟨⟨p, he⟩, hk'⟩

theorem total_missing (a : Option Addr) (n c : Nat) (low mi ot : Int) (w : World) (ho : ot ≤ 0) (hm : 0 < mi) :
    Calls Tryf.prog 9 #[.slice a n c, .int .i64 low, .int .i64 mi, .int .i64 ot] w fun e w' => e = .returned (.tuple #[valV 0 0, .nilIface]) ∧ Kept w w' [] := by
  obtain ⟨env, _⟩ := tw_at a n c low mi ot w
  have he := eval_missing (w.heap.size + 2) (w.heap.size + 1) n c _ low mi ot _ env ho hm
  refine (total_of _ n c low mi ot w 0 0 (fun v => v = .nilIface) [] [] (he.mono ?_) (by simp) (by simp)).mono ?_
  · rintro e w' ⟨he, hk'⟩
    exact ⟨⟨_, rfl, he⟩, hk'⟩
  · rintro e w' ⟨⟨er, rfl, he⟩, hk'⟩
    exact ⟨he, hk'⟩

end Fl
end Go.Proofs.Qxb6615471aFmt
