/-
  WHAT STANDS IN THE LAW: its own copies and the wanted words.
-/
import Derived.Test.Qxb6615024aDoorLawA
namespace Go.Proofs.Qxb6615024aDoor
open Go.RowKit
set_option linter.unusedVariables false
namespace Gl

theorem wrap64_small (x : Int) (h0 : 0 ≤ x) (h1 : x < 9223372036854775808) : IntKind.i64.wrap x = x := by
  simp [IntKind.wrap, IntKind.bits, IntKind.signed]
  omega

theorem PS.of_block {W W' : World} {a : Option Addr} {n : Nat} {zs : List Int} (h : PS W a n zs) (e : 0 < n → ∀ b, a = some ⟨b, 0, none⟩ → W'.heap[b]? = W.heap[b]?) : PS W' a n zs := by
  by_cases hn : n = 0
  · exact ⟨h.1, Or.inl hn⟩
  · obtain ⟨hl, h0 | ⟨b, rfl, hr⟩⟩ := h
    · exact ⟨hl, Or.inl h0⟩
    · exact ⟨hl, Or.inr ⟨b, rfl, hr.of_block (e (by omega) b rfl)⟩⟩

/-- the law's blocks are apart, and all behind the caller's -/
structure Fx (w : World) (a : Option Addr) (m n : Nat) (zs zn zx zm : List Int) (nm xm mm nb mb : Nat) : Prop where
  hm : m ≤ 4096
  hn : Hid (n = m / 64 + 1)
  n4 : n ≤ 4096
  h64 : m + 1 ≤ 64 * n
  lzs : zs.length = m
  lzn : zn.length = n
  wzn : WF zn
  lzx : zx.length = n
  wzx : WF zx
  lzm : zm.length = n
  wzm : WF zm
  d1 : nm < xm
  d2 : xm < mm
  d3 : mm < nb
  d4 : nb < mb
  d5 : w.heap.size ≤ nm
  da : 0 < m → ∀ b, a = some ⟨b, 0, none⟩ → b < nm ∧ w.heap.size ≤ b

structure St (w : World) (a : Option Addr) (m n : Nat) (zs zn zx zm : List Int) (nm xm mm nb mb : Nat) (wn wm : List Int) (W : World) : Prop where
  pat : PS W a m zs
  rn : Row W .u64 30 nm n zn
  rx : Row W .u64 30 xm n zx
  rm : Row W .u64 30 mm n zm
  rwn : Row W .u64 30 nb n wn
  rwm : Row W .u64 30 mb n wm
  lwn : wn.length = n
  lwm : wm.length = n
  wwn : WF wn
  wwm : WF wm
  kept : Kept w W []

section
variable {w W W' : World} {a : Option Addr} {m n : Nat} {zs zn zx zm : List Int} {nm xm mm nb mb : Nat} {wn wm : List Int}

theorem St.keep (h : St w a m n zs zn zx zm nm xm mm nb mb wn wm W) (k : Kept W W' []) : St w a m n zs zn zx zm nm xm mm nb mb wn wm W' :=
  ⟨h.pat.kept k, h.rn.kept k (by simp), h.rx.kept k (by simp), h.rm.kept k (by simp), h.rwn.kept k (by simp), h.rwm.kept k (by simp), h.lwn, h.lwm, h.wwn, h.wwm, h.kept.trans k⟩

theorem St.setM (f : Fx w a m n zs zn zx zm nm xm mm nb mb) (h : St w a m n zs zn zx zm nm xm mm nb mb wn wm W) (i : Nat) (hi : i < n) (v : Int) (v0 : 0 ≤ v) (v1 : v < 18446744073709551616) :
    St w a m n zs zn zx zm nm xm mm nb mb wn (wm.set i v) (W.setCell ⟨mb, i, none⟩ (.int .u64 v)) := by
  obtain ⟨_, _, _, _, _, _, _, _, _, _, _, d1, d2, d3, d4, d5, da⟩ := f
  refine ⟨h.pat.of_block (fun h0 b e => Below.heap_setCell _ _ _ _ ?_), h.rn.setOther (by show mb ≠ nm; omega) _, h.rx.setOther (by show mb ≠ xm; omega) _, h.rm.setOther (by show mb ≠ mm; omega) _, h.rwn.setOther (by show mb ≠ nb; omega) _,
    h.rwm.set i (by rw [h.lwm]; exact hi) v, h.lwn, by simpa using h.lwm, h.wwn, wf_set h.wwm i v v0 v1, h.kept.setCell (Or.inr (by show w.heap.size ≤ mb; omega)) _⟩
  have := da h0 b e
  show b ≠ mb
  omega

theorem St.setN (f : Fx w a m n zs zn zx zm nm xm mm nb mb) (h : St w a m n zs zn zx zm nm xm mm nb mb wn wm W) (i : Nat) (hi : i < n) (v : Int) (v0 : 0 ≤ v) (v1 : v < 18446744073709551616) :
    St w a m n zs zn zx zm nm xm mm nb mb (wn.set i v) wm (W.setCell ⟨nb, i, none⟩ (.int .u64 v)) := by
  obtain ⟨_, _, _, _, _, _, _, _, _, _, _, d1, d2, d3, d4, d5, da⟩ := f
  refine ⟨h.pat.of_block (fun h0 b e => Below.heap_setCell _ _ _ _ ?_), h.rn.setOther (by show nb ≠ nm; omega) _, h.rx.setOther (by show nb ≠ xm; omega) _, h.rm.setOther (by show nb ≠ mm; omega) _,
    h.rwn.set i (by rw [h.lwn]; exact hi) v, h.rwm.setOther (by show nb ≠ mb; omega) _, by simpa using h.lwn, h.lwm, wf_set h.wwn i v v0 v1, h.wwm, h.kept.setCell (Or.inr (by show w.heap.size ≤ nb; omega)) _⟩
  have := da h0 b e
  show b ≠ nb
  omega
end

end Gl
end Go.Proofs.Qxb6615024aDoor
