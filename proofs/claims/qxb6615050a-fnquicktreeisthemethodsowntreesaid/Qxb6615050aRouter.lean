/-
  THE WALK of ZZnewRouterNine: a router with a tree for each of the nine methods.
-/
import Derived.Test.Qxb6615050aNames
import Derived.Maps.OwnSet
import Derived.Maps.AppendAt
import Derived.StringKeys
namespace Go.Proofs.Qxb6615050a
open Go.RowKit Go.Maps Go.WideMaps
set_option linter.unusedVariables false
namespace Qt

/-- a map literal's entry, at the operation: as the kit's law for a store into a map -/
theorem wpList_insert_own {H : Type} {P : Program} (w : World) {ops : Array Oper} {rest : List Oper} {o : Oper} {a : Act} {Q : Exit → Act → World → Prop}
    (hg : o.guard = none) (m x v : Operand) (t : TypeId) (hop : o.op = Op.insert t m x v)
    (k e : TypeId) (K : Keyed P k) (ht : P.underlying t = some (.map k e)) (R : Value → Option (DataW H × List MemPlace)) (b n : Nat) (D : DataW H)
    (hm : a.eval m = .map (some b)) (hown : w.ownsMap P k R b n D) (hn : n < maxLen) (key val : Value) (kl : Lit) (hx : a.eval x = key) (hv : a.eval v = val) (hkey : keyOf P k key = some kl)
    (d : DataW H) (ps : List MemPlace) (hval : R val = some (d, ps))
    (hK : ∀ w', w'.ownsMap P k R b (n + 1) (D.put kl d) → w.grownBy w' (some b) → wpList P ops Q rest (a.put o.dst undef) w') :
    wpList P ops Q (o :: rest) a w := by
  refine wpList_plain hg fun K' hK' => ?_
  obtain ⟨w', hrun, r1, r2⟩ := hown.update K ht hn hkey hval
  unfold Oper.wp
  simp [execOp, hop, hm, hx, hv, hrun, Result.andThen]
  exact hK' _ _ (hK w' r1 r2)

/-- how a pointer to a whole block reads: as the block's number; nil: as -1 (a ghost of the proof) -/
def ptr : Value → Option (DataW Unit × List MemPlace)
  | .pointer (some a) => if a.off = 0 ∧ a.spot = none then some (.lit (.int .i64 a.block), []) else none
  | .pointer none => some (.lit (.int .i64 (-1)), [])
  | _ => none

theorem law9 : Keyed Try.prog 9 := string_keyed Try.underlying9

/-- the trees by name, B the first one's block -/
def Tr (B : Nat) : Nat → DataW Unit
  | 0 => .map []
  | k + 1 => (Tr B k).put (.string (nm k).data.toList) (.lit (.int .i64 ((B + k : Nat) : Int)))

theorem bal {a w : World} (h : Below a.heap.size a w) (o : Obj) : Below a.heap.size a (w.alloc o) := h.alloc h.size o

theorem grown_below {a w w' : World} {row : Option Nat} (hg : w.grownBy w' row) (hr : ∀ k, row = some k → a.heap.size ≤ k) (h : Below a.heap.size a w) : Below a.heap.size a w' := h.grown hg h.size hr

/-- n plain blocks lie from B on, and no other behind them -/
def Nd (W : World) (B n : Nat) : Prop := W.heap.size = B + n ∧ ∀ i, i < n → ∃ c t, W.heap[B + i]? = some (.cells c t (0, 0))

theorem nd_zero (w : World) : Nd w w.heap.size 0 := ⟨rfl, fun i hi => absurd hi (Nat.not_lt_zero _)⟩

theorem nd_step {W : World} {B n : Nat} (h : Nd W B n) (c : Array Value) (t : TypeId) : Nd (W.alloc (.cells c t)) B (n + 1) := by
  obtain ⟨h1, h2⟩ := h
  refine ⟨by show (W.heap.push _).size = _; rw [Array.size_push]; omega, fun i hi => ?_⟩
  by_cases e : i < n
  · obtain ⟨c', t', hc⟩ := h2 i e
    exact ⟨c', t', by rw [Below.heap_alloc _ _ _ (by omega)]; exact hc⟩
  · have : B + i = W.heap.size := by omega
    exact ⟨c, t, by rw [this]; exact (MapKept.heap_alloc W _).1⟩

theorem nd_final {W w1 : World} {row : Option Nat} {B : Nat} (hg : (W.alloc (.map #[] 0)).grownBy w1 row) (hr : ∀ j, row = some j → B + 9 ≤ j) (h : Nd W B 9) (i : Nat) (hi : i < 9) : ∃ c t, w1.heap[B + i]? = some (.cells c t (0, 0)) := by
  obtain ⟨h1, h2⟩ := h
  obtain ⟨c, t, hc⟩ := h2 i hi
  refine ⟨c, t, ?_⟩
  rw [hg.block (B + i) (by show _ < (W.heap.push _).size; rw [Array.size_push]; omega) (fun e => by have := hr _ e.symm; omega), Below.heap_alloc _ _ _ (by omega)]
  exact hc

theorem made_at (W : World) (B : Nat) (h : W.heap.size = B) : (W.alloc (.map #[] 0)).ownsMap Try.prog 9 ptr B 0 (.map []) := by
  subst h
  exact World.ownsMap_made _ _ _ _

set_option maxHeartbeats 1000000 in
set_option maxRecDepth 100000 in
theorem router_any (w : World) :
    Calls Try.prog 22 #[] w fun e w' => ∃ r m, e = .returned (.pointer (some ⟨r, 0, none⟩)) ∧ w'.cell? ⟨r, 0, none⟩ = some (.map (some m)) ∧
      (∀ i, i < 9 → w'.cell? ⟨r, 1 + i, none⟩ = some (.pointer (some ⟨w.heap.size + i, 0, none⟩))) ∧ w'.cell? ⟨r, 10, none⟩ = some (.pointer none) ∧
      w'.ownsMap Try.prog 9 ptr m 9 (Tr w.heap.size 9) ∧ r < w'.heap.size ∧ Below w.heap.size w w' ∧
      (w.heap.size + 9 < w'.heap.size ∧ ∀ i, i < 9 → ∃ c t, w'.heap[w.heap.size + i]? = some (.cells c t (0, 0))) := by
  have hmm := @run_makeMap Try.prog
  go_enter Try.func22, Try.ntmps22
  go_wp2_with (first
    | (refine wpList_insert_own _ rfl _ _ _ 59 rfl 9 29 law9 Try.underlying59 ptr _ _ _ rfl hown (by decide) _ _ _ rfl rfl (keyOf_string_mk Try.underlying9 (by decide)) _ _ rfl ?_; clear hown; intro w1 hown hg1; replace hg := hg.trans hg1; clear hg1)
    | (refine wpList_insert_own _ rfl _ _ _ 59 rfl 9 29 law9 Try.underlying59 ptr _ _ _ rfl (made_at _ _ (by simp)) (by decide) _ _ _ rfl rfl (keyOf_string_mk Try.underlying9 (by decide)) _ _ rfl ?_; intro w1 hown hg))
  go_ret
  have hb := grown_below hg (fun j hj => by cases hj; omega) (bal (bal (bal (bal (bal (bal (bal (bal (bal (bal (Below.refl w.heap.size w) _) _) _) _) _) _) _) _) _) _)
  have hs := hown.lt
  refine ⟨w1.heap.size, rfl, w.heap.size + 9, ?_, ?_, ?_, hown.alloc _, by simp, hb.alloc hb.size _, by simp; omega, ?_⟩
  · rw [World.cell?_alloc_new]; rfl
  · intro i hi
    rw [World.cell?_alloc_new]
    match i, hi with
    | 0, _ => rfl
    | 1, _ => rfl
    | 2, _ => rfl
    | 3, _ => rfl
    | 4, _ => rfl
    | 5, _ => rfl
    | 6, _ => rfl
    | 7, _ => rfl
    | 8, _ => rfl
  · rw [World.cell?_alloc_new]; rfl
  · intro i hi
    rw [Below.heap_alloc _ _ _ (by omega)]
    exact nd_final hg (fun j hj => by cases hj; omega) (nd_step (nd_step (nd_step (nd_step (nd_step (nd_step (nd_step (nd_step (nd_step (nd_zero w) _ _) _ _) _ _) _ _) _ _) _ _) _ _) _ _) _ _) i hi

/-- the tree of a method: a pointer to its block, nil for any other -/
def tp (B k : Nat) : Option Addr := if k < 9 then some ⟨B + k, 0, none⟩ else none

theorem isMap_Tr (B : Nat) : ∀ n, IsMap (Tr B n)
  | 0 => isMap_empty
  | n + 1 => (isMap_Tr B n).put _ _

theorem lit_inj (a b : ByteArray) (h : Lit.string a.data.toList = .string b.data.toList) : a = b := by
  simp at h
  cases a; cases b
  simp at h
  rw [h]

theorem at_Tr (B : Nat) (s : ByteArray) : ∀ n, n ≤ 9 → (Tr B n).atKey (.string s.data.toList) (.lit (.int .i64 (-1))) = if mi s < n then .lit (.int .i64 ((B + mi s : Nat) : Int)) else .lit (.int .i64 (-1))
  | 0, _ => by simp [Tr, DataW.atKey]
  | n + 1, h => by
    show ((Tr B n).put (.string (nm n).data.toList) _).atKey _ _ = _
    by_cases e : s = nm n
    · subst e
      rw [atKey_put_same (k := .string (nm n).data.toList) (isMap_Tr B n) trivial, mi_nm n (by omega), if_pos (by omega)]
    · rw [atKey_put_other (fun k => e (lit_inj _ _ k)), at_Tr B s n (by omega)]
      have hne : mi s ≠ n := by
        intro k
        exact e (k ▸ nm_mi s (by omega))
      by_cases c : mi s < n
      · rw [if_pos c, if_pos (by omega)]
      · rw [if_neg c, if_neg (by omega)]

theorem ptr_inv {v : Value} {k : Int} {ps : List MemPlace} (h : ptr v = some (.lit (.int .i64 k), ps)) : (k = -1 ∧ v = .pointer none) ∨ ∃ b : Nat, k = b ∧ v = .pointer (some ⟨b, 0, none⟩) := by
  unfold ptr at h
  split at h
  · split at h
    · rename_i a hc
      right
      simp at h
      obtain ⟨b, off, spot⟩ := a
      simp at hc h
      obtain ⟨rfl, rfl⟩ := hc
      exact ⟨b, h.1.symm, rfl⟩
    · cases h
  · left
    simp at h
    exact ⟨h.1.symm, rfl⟩
  · cases h

/-- the look-up in the map of trees: the method's tree -/
theorem look_Tr {w : World} {m B : Nat} (h : w.ownsMap Try.prog 9 ptr m 9 (Tr B 9)) (s : ByteArray) (hs : s.size ≤ maxLen) :
    (Instr.lookup 59 (.map (some m)) (.string s) false).run Try.prog w = .ok (.pointer (tp B (mi s))) w := by
  have hz : (zeroValue 29).run Try.prog w = .ok (.pointer none) w := by kernel_rfl
  obtain ⟨v, ps, hrun, hv⟩ := h.lookup law9 Try.underlying59 hz (zd := .lit (.int .i64 (-1))) (zp := []) rfl (keyOf_string_mk Try.underlying9 hs)
  rw [at_Tr B s 9 (Nat.le_refl _)] at hv
  rw [hrun]
  unfold tp
  by_cases c : mi s < 9
  · rw [if_pos c] at hv ⊢
    rcases ptr_inv hv with ⟨k, _⟩ | ⟨b, k, rfl⟩
    · omega
    · have : b = B + mi s := by omega
      rw [this]
  · rw [if_neg c] at hv ⊢
    rcases ptr_inv hv with ⟨_, rfl⟩ | ⟨b, k, _⟩
    · rfl
    · omega

end Qt
end Go.Proofs.Qxb6615050a
