/-
  THE WALKS of eval and ZZTotalEval.
-/
import Derived.Test.Qxb6615471aFmtFlt
import Derived.Test.Qxb6615471aFmtErr
namespace Go.Proofs.Qxb6615471aFmt
open Go.RowKit Go.Extern.Stop Go.Stop Go.Extern
set_option linter.unusedVariables false
namespace Fl

@[go_sem] theorem run_store_float {P : Program} {w : World} {a : Addr} {m : Mode} (k : FloatKind) (b : Nat) : (store a (.float k b) m).run P w = stored P w a (.float k b) m := run_store P w a _ m rfl

/-- the value of a number -/
def numV (r : Nat) : Value := .agg #[.int .u8 2, .string ⟨#[]⟩, .float .f64 r, .bool false, .slice none 0 0]
/-- no value -/
def noV : Value := .agg #[.int .u8 0, .string ⟨#[]⟩, .float .f64 0, .bool false, .slice none 0 0]

def totalV : Value := .agg #[.int .i64 0, .int .u8 0, .string ⟨#[]⟩, .int .i64 0, .string ⟨#[120, 46, 110]⟩, .int .i64 1]

/-- the env at block E holds one tally, at block T -/
structure EnvAt (W : World) (E T : Nat) (a : Option Addr) (n c : Nat) (low mi ot : Int) : Prop where
  env : W.cell? ⟨E, 2, none⟩ = some (.slice (some ⟨T, 0, none⟩) 1 1)
  tal : W.heap[T]? = some (.cells #[.slice a n c, .int .i64 low, .int .i64 mi, .int .i64 ot] 49 (0, 0))
  ltE : E < W.heap.size
  ltT : T < W.heap.size

/-- eval's own two blocks -/
structure EvAt (W W0 : World) (E T : Nat) (a : Option Addr) (n c : Nat) (low mi ot : Int) : Prop where
  kept : Kept W W0 []
  env : W0.cell? ⟨E, 2, none⟩ = some (.slice (some ⟨T, 0, none⟩) 1 1)
  c2 : W0.cell? ⟨T, 2, none⟩ = some (.int .i64 mi)
  c3 : W0.cell? ⟨T, 3, none⟩ = some (.int .i64 ot)
  box : W0.heap[W.heap.size]? = some (.cells #[.int .i64 0, .int .u8 0, .string ⟨#[]⟩, .int .i64 0, .string ⟨#[120, 46, 110]⟩, .int .i64 1] 60 (0, 0))
  res : W0.heap[W.heap.size + 1]? = some (.cells #[.int .u8 0, .string ⟨#[]⟩, .float .f64 0, .bool false, .slice none 0 0] 32 (0, 0))

theorem ev_at (W : World) (E T n c : Nat) (a : Option Addr) (low mi ot : Int) (h : EnvAt W E T a n c low mi ot) :
    EvAt W ((W.alloc (.cells #[.int .i64 0, .int .u8 0, .string ⟨#[]⟩, .int .i64 0, .string ⟨#[120, 46, 110]⟩, .int .i64 1] 60)).alloc (.cells #[.int .u8 0, .string ⟨#[]⟩, .float .f64 0, .bool false, .slice none 0 0] 32)) E T a n c low mi ot := by
  have k0 : Kept W ((W.alloc (.cells #[.int .i64 0, .int .u8 0, .string ⟨#[]⟩, .int .i64 0, .string ⟨#[120, 46, 110]⟩, .int .i64 1] 60)).alloc (.cells #[.int .u8 0, .string ⟨#[]⟩, .float .f64 0, .bool false, .slice none 0 0] 32)) [] := ((Kept.refl _ _).alloc _).alloc _
  have tb := (k0.block T h.ltT (by simp)).trans h.tal
  have e : (W.alloc (.cells #[.int .i64 0, .int .u8 0, .string ⟨#[]⟩, .int .i64 0, .string ⟨#[120, 46, 110]⟩, .int .i64 1] 60)).heap.size = W.heap.size + 1 := by simp
  refine ⟨k0, (k0.cell (p := ⟨E, 2, none⟩) h.ltE (by simp)).trans h.env, by rw [cell_of_row _ T 2 _ _ _ tb]; rfl, by rw [cell_of_row _ T 3 _ _ _ tb]; rfl, ?_, ?_⟩
  · have h1 := (MapKept.heap_alloc W (.cells #[.int .i64 0, .int .u8 0, .string ⟨#[]⟩, .int .i64 0, .string ⟨#[120, 46, 110]⟩, .int .i64 1] 60)).1
    have h2 := (((Kept.refl (W.alloc (.cells #[.int .i64 0, .int .u8 0, .string ⟨#[]⟩, .int .i64 0, .string ⟨#[120, 46, 110]⟩, .int .i64 1] 60)) []).alloc (.cells #[.int .u8 0, .string ⟨#[]⟩, .float .f64 0, .bool false, .slice none 0 0] 32)).block W.heap.size (by rw [e]; omega) (by simp))
    exact h2.trans h1
  · have h1 := (MapKept.heap_alloc (W.alloc (.cells #[.int .i64 0, .int .u8 0, .string ⟨#[]⟩, .int .i64 0, .string ⟨#[120, 46, 110]⟩, .int .i64 1] 60)) (.cells #[.int .u8 0, .string ⟨#[]⟩, .float .f64 0, .bool false, .slice none 0 0] 32)).1
    rw [e] at h1
    exact h1

/-- the five cells of the result -/
theorem res_facts {w1 : World} {B : Nat} (hb1 : w1.heap[B]? = some (.cells #[.int .u8 0, .string ⟨#[]⟩, .float .f64 0, .bool false, .slice none 0 0] 32 (0, 0))) :
    w1.cell? ⟨B, 0, none⟩ = some (.int .u8 0) ∧ w1.cell? ⟨B, 1, none⟩ = some (.string ⟨#[]⟩) ∧ w1.cell? ⟨B, 2, none⟩ = some (.float .f64 0) ∧ w1.cell? ⟨B, 3, none⟩ = some (.bool false) ∧ w1.cell? ⟨B, 4, none⟩ = some (.slice none 0 0) ∧
      w1.frozen? ⟨B, 0, none⟩ = false ∧ w1.frozen? ⟨B, 1, none⟩ = false ∧ w1.frozen? ⟨B, 2, none⟩ = false ∧ w1.frozen? ⟨B, 3, none⟩ = false ∧ w1.frozen? ⟨B, 4, none⟩ = false := by
  have qf : ∀ i, w1.frozen? ⟨B, i, none⟩ = false := fun i => by simp [World.frozen?, hb1]
  exact ⟨by rw [cell_of_row w1 B 0 _ _ _ hb1]; rfl, by rw [cell_of_row w1 B 1 _ _ _ hb1]; rfl, by rw [cell_of_row w1 B 2 _ _ _ hb1]; rfl, by rw [cell_of_row w1 B 3 _ _ _ hb1]; rfl, by rw [cell_of_row w1 B 4 _ _ _ hb1]; rfl, qf 0, qf 1, qf 2, qf 3, qf 4⟩

theorem box_facts {w1 : World} {B : Nat} (hb1 : w1.heap[B]? = some (.cells #[.int .i64 0, .int .u8 0, .string ⟨#[]⟩, .int .i64 0, .string ⟨#[120, 46, 110]⟩, .int .i64 1] 60 (0, 0))) :
    w1.cell? ⟨B, 3, none⟩ = some (.int .i64 0) ∧ w1.cell? ⟨B, 4, none⟩ = some (.string ⟨#[120, 46, 110]⟩) ∧ w1.cell? ⟨B, 5, none⟩ = some (.int .i64 1) :=
  ⟨by rw [cell_of_row w1 B 3 _ _ _ hb1]; rfl, by rw [cell_of_row w1 B 4 _ _ _ hb1]; rfl, by rw [cell_of_row w1 B 5 _ _ _ hb1]; rfl⟩

theorem kept5 {W w1 : World} {S : List Nat} (h : Kept W w1 S) (a b c d e : Value) : Kept W (((((w1.setCell ⟨W.heap.size + 1, 0, none⟩ a).setCell ⟨W.heap.size + 1, 1, none⟩ b).setCell ⟨W.heap.size + 1, 2, none⟩ c).setCell ⟨W.heap.size + 1, 3, none⟩ d).setCell ⟨W.heap.size + 1, 4, none⟩ e) S := by
  have hb : W.heap.size ≤ W.heap.size + 1 := by omega
  exact ((((h.setCell (p := ⟨_, 0, none⟩) (Or.inr hb) _).setCell (p := ⟨_, 1, none⟩) (Or.inr hb) _).setCell (p := ⟨_, 2, none⟩) (Or.inr hb) _).setCell (p := ⟨_, 3, none⟩) (Or.inr hb) _).setCell (p := ⟨_, 4, none⟩) (Or.inr hb) _

set_option maxHeartbeats 4000000 in
set_option maxRecDepth 100000 in
theorem eval_num (E T n c : Nat) (a : Option Addr) (low mi ot : Int) (W : World) (h : EnvAt W E T a n c low mi ot) (hm : mi ≤ 0) (ho : ot ≤ 0) (x : Nat) (S : List Nat) (hST : ∀ b ∈ S, b < W.heap.size)
    (hov : ∀ w, Calls Tryf.prog 19 #[.float .f64 x] w fun e w' => e = .returned (.bool false) ∧ w' = w)
    (hfl : ∀ W', Kept W W' [] → Calls Tryf.prog 18 #[.pointer (some ⟨T, 0, none⟩)] W' fun e w' => e = .returned (.float .f64 x) ∧ Kept W' w' S) :
    Calls Tryf.prog 16 #[totalV, .pointer (some ⟨E, 0, none⟩)] W fun e w' => e = .returned (.tuple #[numV x, .nilIface]) ∧ Kept W w' S := by
  have ev := ev_at W E T n c a low mi ot h
  obtain ⟨W0, hW0⟩ : ∃ W0, W0 = (W.alloc (.cells #[.int .i64 0, .int .u8 0, .string ⟨#[]⟩, .int .i64 0, .string ⟨#[120, 46, 110]⟩, .int .i64 1] 60)).alloc (.cells #[.int .u8 0, .string ⟨#[]⟩, .float .f64 0, .bool false, .slice none 0 0] 32) := ⟨_, rfl⟩
  rw [← hW0] at ev
  have e2 := ev.env
  have t2 := ev.c2
  have t3 := ev.c3
  obtain ⟨p3, p4, p5⟩ := box_facts ev.box
  have hsz : W.heap.size + 1 < W0.heap.size := (Array.getElem?_eq_some_iff.1 ev.res).1
  have HW := hide hW0
  clear h hW0
  unfold totalV
  go_enter Tryf.func16, Tryf.ntmps16
  go_wp2_with fail
  rw [← HW.out]
  clear HW
  go_quiet (fail)
  go_wp2_with fail
  refine (hfl _ (ev.kept.drewN _)).mono ?_
  rintro e w1 ⟨rfl, k1⟩
  have hb1 := (k1.block (W.heap.size + 1) hsz (fun m => by have := hST _ m; omega)).trans ev.res
  have HK1 := hide (((ev.kept.drewN _).mono (by simp)).trans k1)
  obtain ⟨q0, q1, q2, q3, q4, f0, f1, f2, f3, f4⟩ := res_facts hb1
  clear hb1 k1 e2 t2 t3 p3 p4 p5 ev
  go_wp2_with fail
  refine (hov _).mono ?_
  rintro e w2 ⟨rfl, hw⟩
  subst w2
  go_wp2
  refine bodyPost_ret (v := .tuple #[numV x, .nilIface]) (by simp [results, Tryf.results16, go_sem, numV, q0, q1, q2, q3, q4]) rfl ⟨rfl, ?_⟩
  exact kept5 HK1.out _ _ _ _ _

/-- an error and no value -/
def NoErr (W : World) (S : List Nat) (e : Ending) (w' : World) : Prop := ∃ p, e = .returned (.tuple #[noV, .iface 79 (.pointer (some p))]) ∧ Kept W w' S

set_option maxHeartbeats 4000000 in
set_option maxRecDepth 100000 in
theorem eval_over (F : Interp) (E T n c : Nat) (a : Option Addr) (low mi ot : Int) (W : World) (hF : F.answers W.tape) (h : EnvAt W E T a n c low mi ot) (hm : mi ≤ 0) (ho : ot ≤ 0) (x : Nat) (S : List Nat) (hST : ∀ b ∈ S, b < W.heap.size)
    (hov : ∀ w, Calls Tryf.prog 19 #[.float .f64 x] w fun e w' => e = .returned (.bool true) ∧ w' = w)
    (hfl : ∀ W', Kept W W' [] → Calls Tryf.prog 18 #[.pointer (some ⟨T, 0, none⟩)] W' fun e w' => e = .returned (.float .f64 x) ∧ Kept W' w' S) :
    Calls Tryf.prog 16 #[totalV, .pointer (some ⟨E, 0, none⟩)] W (NoErr W S) := by
  have ev := ev_at W E T n c a low mi ot h
  obtain ⟨W0, hW0⟩ : ∃ W0, W0 = (W.alloc (.cells #[.int .i64 0, .int .u8 0, .string ⟨#[]⟩, .int .i64 0, .string ⟨#[120, 46, 110]⟩, .int .i64 1] 60)).alloc (.cells #[.int .u8 0, .string ⟨#[]⟩, .float .f64 0, .bool false, .slice none 0 0] 32) := ⟨_, rfl⟩
  rw [← hW0] at ev
  have e2 := ev.env
  have t2 := ev.c2
  have t3 := ev.c3
  obtain ⟨p3, p4, p5⟩ := box_facts ev.box
  have hsz : W.heap.size + 1 < W0.heap.size := (Array.getElem?_eq_some_iff.1 ev.res).1
  have HW := hide hW0
  clear h hW0
  unfold totalV
  go_enter Tryf.func16, Tryf.ntmps16
  go_wp2_with fail
  rw [← HW.out]
  clear HW
  go_quiet (fail)
  go_wp2_with fail
  refine (hfl _ (ev.kept.drewN _)).mono ?_
  rintro e w1 ⟨rfl, k1⟩
  have hb1 := (k1.block (W.heap.size + 1) hsz (fun m => by have := hST _ m; omega)).trans ev.res
  have hb0 := (k1.block W.heap.size (by show W.heap.size < W0.heap.size; omega) (fun m => by have := hST _ m; omega)).trans ev.box
  have hK1 := ((ev.kept.drewN _).mono (S' := S) (by simp)).trans k1
  have hF1 : F.answers w1.tape := by rw [hK1.tape]; exact hF
  have HK1 := hide hK1
  have HR := hide hb1
  clear p3 p4 p5
  obtain ⟨p3, p4, p5⟩ := box_facts hb0
  clear hb1 hb0 k1 e2 t2 t3 ev hK1
  go_wp2_with fail
  refine (hov _).mono ?_
  rintro e w2 ⟨rfl, hw⟩
  subst w2
  have her := hide (err_one F ⟨#[120, 46, 110]⟩ w1.heap.size (w1.alloc (.cells #[.iface 9 (.string ⟨#[120, 46, 110]⟩)] 20)) hF1 (by simp [go_sem]))
  go_wp2_with fail
  refine her.out.mono ?_
  rintro e w3 ⟨p, rfl, k3⟩
  have hlt : W.heap.size + 1 < w1.heap.size := (Array.getElem?_eq_some_iff.1 HR.out).1
  have hb3 := (k3.block (W.heap.size + 1) (by simp; omega) (by simp)).trans ((((Kept.refl w1 []).alloc (.cells #[.iface 9 (.string ⟨#[120, 46, 110]⟩)] 20)).block (W.heap.size + 1) hlt (by simp)).trans HR.out)
  have hK3 := hide ((HK1.out.alloc (.cells #[.iface 9 (.string ⟨#[120, 46, 110]⟩)] 20)).then k3 (by simp))
  obtain ⟨q0, q1, q2, q3, q4, f0, f1, f2, f3, f4⟩ := res_facts hb3
  clear hb3 k3 her HR HK1 p3 p4 p5
  go_wp2
  refine bodyPost_ret (v := .tuple #[noV, .iface 79 (.pointer (some p))]) (by simp [results, Tryf.results16, go_sem, noV, q0, q1, q2, q3, q4]) rfl ⟨p, rfl, ?_⟩
  exact kept5 hK3.out _ _ _ _ _

set_option maxHeartbeats 4000000 in
set_option maxRecDepth 100000 in
theorem eval_other (F : Interp) (E T n c : Nat) (a : Option Addr) (low mi ot : Int) (W : World) (hF : F.answers W.tape) (h : EnvAt W E T a n c low mi ot) (ho : 0 < ot) :
    Calls Tryf.prog 16 #[totalV, .pointer (some ⟨E, 0, none⟩)] W (NoErr W []) := by
  have ev := ev_at W E T n c a low mi ot h
  obtain ⟨W0, hW0⟩ : ∃ W0, W0 = (W.alloc (.cells #[.int .i64 0, .int .u8 0, .string ⟨#[]⟩, .int .i64 0, .string ⟨#[120, 46, 110]⟩, .int .i64 1] 60)).alloc (.cells #[.int .u8 0, .string ⟨#[]⟩, .float .f64 0, .bool false, .slice none 0 0] 32) := ⟨_, rfl⟩
  rw [← hW0] at ev
  have e2 := ev.env
  have t2 := ev.c2
  have t3 := ev.c3
  obtain ⟨p3, p4, p5⟩ := box_facts ev.box
  have hsz : W.heap.size + 1 < W0.heap.size := (Array.getElem?_eq_some_iff.1 ev.res).1
  have HW := hide hW0
  clear h hW0
  unfold totalV
  go_enter Tryf.func16, Tryf.ntmps16
  go_wp2_with fail
  rw [← HW.out]
  clear HW
  go_quiet (fail)
  have HR : Hid ((W0.drewN nq).heap[W.heap.size + 1]? = some (.cells #[.int .u8 0, .string ⟨#[]⟩, .float .f64 0, .bool false, .slice none 0 0] 32 (0, 0))) := ev.res
  have HK1 : Hid (Kept W (W0.drewN nq) []) := ev.kept.drewN nq
  have hF1 : F.answers (W0.drewN nq).tape := by rw [HK1.out.tape]; exact hF
  have q3 : (W0.drewN nq).cell? ⟨T, 3, none⟩ = some (.int .i64 ot) := t3
  have q2 : (W0.drewN nq).cell? ⟨T, 2, none⟩ = some (.int .i64 mi) := t2
  obtain ⟨r3, r4, r5⟩ : (W0.drewN nq).cell? ⟨W.heap.size, 3, none⟩ = some (.int .i64 0) ∧ (W0.drewN nq).cell? ⟨W.heap.size, 4, none⟩ = some (.string ⟨#[120, 46, 110]⟩) ∧ (W0.drewN nq).cell? ⟨W.heap.size, 5, none⟩ = some (.int .i64 1) := ⟨p3, p4, p5⟩
  clear e2 t2 t3 p3 p4 p5 ev hsz
  generalize W0.drewN nq = w1 at *
  have her := hide (err_two F ⟨#[120, 46, 110]⟩ w1.heap.size (w1.alloc (.cells #[.iface 9 (.string ⟨#[120, 46, 110]⟩), .iface 9 (.string ⟨#[120, 46, 110]⟩)] 20)) hF1 (by simp [go_sem]) (by simp [go_sem]))
  go_wp2_with fail
  refine her.out.mono ?_
  rintro e w3 ⟨p, rfl, k3⟩
  have hlt : W.heap.size + 1 < w1.heap.size := (Array.getElem?_eq_some_iff.1 HR.out).1
  have hb3 := (k3.block (W.heap.size + 1) (by simp; omega) (by simp)).trans ((((Kept.refl w1 []).alloc (.cells #[.iface 9 (.string ⟨#[120, 46, 110]⟩), .iface 9 (.string ⟨#[120, 46, 110]⟩)] 20)).block (W.heap.size + 1) hlt (by simp)).trans HR.out)
  have hK3 := hide ((HK1.out.alloc (.cells #[.iface 9 (.string ⟨#[120, 46, 110]⟩), .iface 9 (.string ⟨#[120, 46, 110]⟩)] 20)).then k3 (by simp))
  clear q2 q3
  obtain ⟨q0, q1, q2, q3, q4, f0, f1, f2, f3, f4⟩ := res_facts hb3
  clear hb3 k3 her HR HK1 r3 r4 r5
  go_wp2
  refine bodyPost_ret (v := .tuple #[noV, .iface 79 (.pointer (some p))]) (by simp [results, Tryf.results16, go_sem, noV, q0, q1, q2, q3, q4]) rfl ⟨p, rfl, ?_⟩
  exact kept5 hK3.out _ _ _ _ _

set_option maxHeartbeats 4000000 in
set_option maxRecDepth 100000 in
theorem eval_missing (E T n c : Nat) (a : Option Addr) (low mi ot : Int) (W : World) (h : EnvAt W E T a n c low mi ot) (ho : ot ≤ 0) (hm : 0 < mi) :
    Calls Tryf.prog 16 #[totalV, .pointer (some ⟨E, 0, none⟩)] W fun e w' => e = .returned (.tuple #[noV, .nilIface]) ∧ Kept W w' [] := by
  have ev := ev_at W E T n c a low mi ot h
  obtain ⟨W0, hW0⟩ : ∃ W0, W0 = (W.alloc (.cells #[.int .i64 0, .int .u8 0, .string ⟨#[]⟩, .int .i64 0, .string ⟨#[120, 46, 110]⟩, .int .i64 1] 60)).alloc (.cells #[.int .u8 0, .string ⟨#[]⟩, .float .f64 0, .bool false, .slice none 0 0] 32) := ⟨_, rfl⟩
  rw [← hW0] at ev
  have e2 := ev.env
  have t2 := ev.c2
  have t3 := ev.c3
  obtain ⟨p3, p4, p5⟩ := box_facts ev.box
  have hsz : W.heap.size + 1 < W0.heap.size := (Array.getElem?_eq_some_iff.1 ev.res).1
  have HW := hide hW0
  clear h hW0
  unfold totalV
  go_enter Tryf.func16, Tryf.ntmps16
  go_wp2_with fail
  rw [← HW.out]
  clear HW
  go_quiet (fail)
  have HR : Hid ((W0.drewN nq).heap[W.heap.size + 1]? = some (.cells #[.int .u8 0, .string ⟨#[]⟩, .float .f64 0, .bool false, .slice none 0 0] 32 (0, 0))) := ev.res
  have HK1 : Hid (Kept W (W0.drewN nq) []) := ev.kept.drewN nq
  have u3 : (W0.drewN nq).cell? ⟨T, 3, none⟩ = some (.int .i64 ot) := t3
  have u2 : (W0.drewN nq).cell? ⟨T, 2, none⟩ = some (.int .i64 mi) := t2
  obtain ⟨r3, r4, r5⟩ : (W0.drewN nq).cell? ⟨W.heap.size, 3, none⟩ = some (.int .i64 0) ∧ (W0.drewN nq).cell? ⟨W.heap.size, 4, none⟩ = some (.string ⟨#[120, 46, 110]⟩) ∧ (W0.drewN nq).cell? ⟨W.heap.size, 5, none⟩ = some (.int .i64 1) := ⟨p3, p4, p5⟩
  clear e2 t2 t3 p3 p4 p5 ev hsz
  generalize W0.drewN nq = w1 at *
  obtain ⟨q0, q1, q2, q3, q4, f0, f1, f2, f3, f4⟩ := res_facts HR.out
  clear HR
  go_wp2
  refine bodyPost_ret (v := .tuple #[noV, .nilIface]) (by simp [results, Tryf.results16, go_sem, noV, q0, q1, q2, q3, q4]) rfl ⟨rfl, ?_⟩
  exact kept5 HK1.out _ _ _ _ _

end Fl
end Go.Proofs.Qxb6615471aFmt
