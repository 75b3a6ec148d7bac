/-
  PLAIN LAWS, NO Go IN SIGHT: the width of the character at the head of a list of bytes, as a UTF-8 decoder reads it; how many characters a list holds; that the count adds over a cut ahead of a byte that is no continuation byte.
-/
import Derived.Lib.RuneCount
namespace Go.Proofs.Qxb6615024a.Plain
set_option linter.unusedVariables false

/-- the width, out of the number of bytes left and the first four bytes: as the model's decoder reckons it -/
def dwn (n b0 b1 b2 b3 : Nat) : Nat :=
  if b0 < 128 then 1
  else if b0 / 32 = 6 ∧ 1 < n ∧ b1 / 64 = 2 then (if (b0 % 32) * 64 + b1 % 64 ≥ 128 then 2 else 1)
  else if b0 / 16 = 14 ∧ (1 < n ∧ b1 / 64 = 2) ∧ (2 < n ∧ b2 / 64 = 2) then
    (if (b0 % 16) * 4096 + (b1 % 64) * 64 + b2 % 64 ≥ 2048 ∧ Utf8.valid (((b0 % 16) * 4096 + (b1 % 64) * 64 + b2 % 64 : Nat) : Int) = true then 3 else 1)
  else if b0 / 8 = 30 ∧ (1 < n ∧ b1 / 64 = 2) ∧ (2 < n ∧ b2 / 64 = 2) ∧ (3 < n ∧ b3 / 64 = 2) then
    (if (b0 % 8) * 262144 + (b1 % 64) * 4096 + (b2 % 64) * 64 + b3 % 64 ≥ 65536 ∧ Utf8.valid (((b0 % 8) * 262144 + (b1 % 64) * 4096 + (b2 % 64) * 64 + b3 % 64 : Nat) : Int) = true then 4 else 1)
  else 1

def bt (l : List UInt8) (k : Nat) : Nat := (l.getD k 0).toNat
def dw (l : List UInt8) : Nat := dwn l.length (bt l 0) (bt l 1) (bt l 2) (bt l 3)

theorem bt_lt (l : List UInt8) (k : Nat) : bt l k < 256 := (l.getD k 0).toNat_lt

theorem valid_iff (c : Nat) : (Utf8.valid (c : Int) = true) ↔ c < 55296 ∨ (57343 < c ∧ c ≤ 1114111) := by
  unfold Utf8.valid
  simp
  try omega

theorem get_drop (s : ByteArray) (i k : Nat) : (s.get! (i + k)).toNat = bt (s.data.toList.drop i) k := by
  unfold bt
  congr 1
  cases s with
  | mk d =>
    simp only [ByteArray.get!, List.getD_eq_getElem?_getD, List.getElem?_drop, Array.getElem?_toList]
    rw [getElem!_def]
    cases d[i + k]? <;> rfl

theorem decode_width (s : ByteArray) (i : Nat) (_h : i < s.size) : (Utf8.decode s i).2 = dw (s.data.toList.drop i) := by
  have hl : (s.data.toList.drop i).length = s.size - i := by rw [List.length_drop, Array.length_toList]; rfl
  have c1 : (i + 1 < s.size) = (1 < (s.data.toList.drop i).length) := by rw [hl]; apply propext; omega
  have c2 : (i + 2 < s.size) = (2 < (s.data.toList.drop i).length) := by rw [hl]; apply propext; omega
  have c3 : (i + 3 < s.size) = (3 < (s.data.toList.drop i).length) := by rw [hl]; apply propext; omega
  simp only [Utf8.decode, get_drop, c1, c2, c3, dw, dwn]
  generalize (s.data.toList.drop i).length = n
  generalize bt (s.data.toList.drop i) 0 = b0
  generalize bt (s.data.toList.drop i) 1 = b1
  generalize bt (s.data.toList.drop i) 2 = b2
  generalize bt (s.data.toList.drop i) 3 = b3
  simp only [beq_iff_eq, Bool.and_eq_true, decide_eq_true_eq, and_assoc, ge_iff_le]
  repeat' split
  all_goals first | rfl | (exfalso; simp_all; done) | skip

/-! ### how many characters -/
def cnt : Nat → List UInt8 → Nat
  | 0, _ => 0
  | f + 1, l => if l = [] then 0 else 1 + cnt f (l.drop (dw l))
def rc (l : List UInt8) : Nat := cnt l.length l

theorem dw_pos (l : List UInt8) : 1 ≤ dw l := by
  unfold dw dwn
  repeat' split
  all_goals omega

theorem dw_le (l : List UInt8) (h : l ≠ []) : dw l ≤ l.length := by
  have : 0 < l.length := List.length_pos_iff.2 h
  unfold dw dwn
  repeat' split
  all_goals omega

theorem cnt_nil (f : Nat) : cnt f [] = 0 := by cases f <;> simp [cnt]

theorem cnt_fuel : ∀ (f g : Nat) (l : List UInt8), l.length ≤ f → l.length ≤ g → cnt f l = cnt g l
  | 0, g, l, h, _ => by
    have : l = [] := List.length_eq_zero_iff.1 (by omega)
    subst this; rw [cnt_nil, cnt_nil]
  | f + 1, 0, l, _, h => by
    have : l = [] := List.length_eq_zero_iff.1 (by omega)
    subst this; rw [cnt_nil, cnt_nil]
  | f + 1, g + 1, l, hf, hg => by
    unfold cnt
    by_cases e : l = []
    · simp [e]
    · rw [if_neg e, if_neg e]
      have h1 := dw_pos l
      have h2 : (l.drop (dw l)).length = l.length - dw l := List.length_drop
      rw [cnt_fuel f g _ (by omega) (by omega)]

theorem rc_nil : rc [] = 0 := rfl

theorem rc_step (l : List UInt8) (h : l ≠ []) : rc l = 1 + rc (l.drop (dw l)) := by
  have hl : 0 < l.length := List.length_pos_iff.2 h
  have h1 := dw_pos l
  have h2 : (l.drop (dw l)).length = l.length - dw l := List.length_drop
  unfold rc
  rw [cnt_fuel l.length ((l.length - 1) + 1) l (Nat.le_refl _) (by omega)]
  conv => lhs; unfold cnt
  rw [if_neg h, cnt_fuel (l.length - 1) (l.drop (dw l)).length _ (by omega) (Nat.le_refl _)]

theorem rc_le (l : List UInt8) : rc l ≤ l.length := by
  unfold rc
  generalize l.length = n
  induction n generalizing l with
  | zero => simp [cnt]
  | succ n ih =>
    unfold cnt
    split
    · omega
    · have := ih (l.drop (dw l)); omega

theorem runeCountFrom_eq (s : ByteArray) : ∀ fuel pos, Lib.runeCountFrom s fuel pos = cnt fuel (s.data.toList.drop pos)
  | 0, _ => rfl
  | f + 1, pos => by
    have hl : (s.data.toList.drop pos).length = s.size - pos := by rw [List.length_drop, Array.length_toList]; rfl
    unfold Lib.runeCountFrom cnt
    by_cases h : pos < s.size
    · have hne : s.data.toList.drop pos ≠ [] := by intro e; rw [e] at hl; simp at hl; omega
      rw [if_pos h, if_neg hne, decode_width s pos h, runeCountFrom_eq s f, List.drop_drop]
    · have he : s.data.toList.drop pos = [] := List.length_eq_zero_iff.1 (by omega)
      rw [if_neg h, if_pos he]

theorem runeCount_eq (s : ByteArray) : Lib.runeCount s = rc s.data.toList := by
  unfold Lib.runeCount rc
  rw [runeCountFrom_eq, Array.length_toList]
  rfl

/-! ### over a cut -/
/-- the cut stands ahead of no continuation byte -/
def noCont (b : List UInt8) : Prop := b = [] ∨ bt b 0 / 64 ≠ 2

theorem bt_append_lt (a b : List UInt8) (k : Nat) (h : k < a.length) : bt (a ++ b) k = bt a k := by
  unfold bt; congr 1
  simp [List.getD_eq_getElem?_getD, List.getElem?_append_left h]

theorem bt_append_at (a b : List UInt8) : bt (a ++ b) a.length = bt b 0 := by
  unfold bt; congr 1
  rw [List.getD_eq_getElem?_getD, List.getD_eq_getElem?_getD, List.getElem?_append_right (Nat.le_refl _), Nat.sub_self]

theorem dw_append (a b : List UInt8) (ha : a ≠ []) (hb : noCont b) : dw (a ++ b) = dw a := by
  rcases hb with rfl | hb
  · rw [List.append_nil]
  · have hl : 0 < a.length := List.length_pos_iff.2 ha
    have hn : (a ++ b).length = a.length + b.length := List.length_append
    have h0 := bt_append_lt a b 0 hl
    have k1 := bt_append_lt a b 1
    have k2 := bt_append_lt a b 2
    have k3 := bt_append_lt a b 3
    have e := bt_append_at a b
    unfold dw
    rw [hn, h0]
    generalize bt a 0 = a0 at *
    by_cases g1 : a.length = 1
    · rw [g1] at e
      have q1 : bt (a ++ b) 1 / 64 ≠ 2 := by rw [e]; exact hb
      generalize bt (a ++ b) 1 = x1 at *
      unfold dwn
      have z1 : ¬ (1 < 1) := by omega
      simp only [g1, q1, z1, false_and, and_false, if_false]
    · rw [k1 (by omega)]
      generalize bt a 1 = a1 at *
      by_cases g2 : a.length = 2
      · rw [g2] at e
        have q2 : bt (a ++ b) 2 / 64 ≠ 2 := by rw [e]; exact hb
        generalize bt (a ++ b) 2 = x2 at *
        unfold dwn
        have z1 : ¬ (2 < 2) := by omega
        have z2 : (1 < 2 + b.length) = (1 < 2) := by apply propext; omega
        simp only [g2, q2, z1, z2, false_and, and_false, if_false]
      · rw [k2 (by omega)]
        generalize bt a 2 = a2 at *
        by_cases g3 : a.length = 3
        · rw [g3] at e
          have q3 : bt (a ++ b) 3 / 64 ≠ 2 := by rw [e]; exact hb
          generalize bt (a ++ b) 3 = x3 at *
          unfold dwn
          have z1 : ¬ (3 < 3) := by omega
          have z2 : (1 < 3 + b.length) = (1 < 3) := by apply propext; omega
          have z3 : (2 < 3 + b.length) = (2 < 3) := by apply propext; omega
          simp only [g3, q3, z1, z2, z3, false_and, and_false, if_false]
        · rw [k3 (by omega)]
          generalize bt a 3 = a3 at *
          unfold dwn
          have z1 : (1 < a.length + b.length) = (1 < a.length) := by apply propext; omega
          have z2 : (2 < a.length + b.length) = (2 < a.length) := by apply propext; omega
          have z3 : (3 < a.length + b.length) = (3 < a.length) := by apply propext; omega
          simp only [z1, z2, z3]

theorem rc_append (b : List UInt8) (hb : noCont b) : ∀ (n : Nat) (a : List UInt8), a.length ≤ n → rc (a ++ b) = rc a + rc b
  | 0, a, h => by
    have : a = [] := List.length_eq_zero_iff.1 (by omega)
    subst this; simp [rc_nil]
  | n + 1, a, h => by
    by_cases ha : a = []
    · subst ha; simp [rc_nil]
    · have hne : a ++ b ≠ [] := by simp [ha]
      have h1 := dw_pos a
      have h2 := dw_le a ha
      have h3 : (a.drop (dw a)).length = a.length - dw a := List.length_drop
      rw [rc_step (a ++ b) hne, rc_step a ha, dw_append a b ha hb, List.drop_append_of_le_length h2, rc_append b hb n _ (by omega)]
      omega

/-! ### what the law's own zzWidth reckons -/
def zgo (n b1 b2 b3 size lo hi : Nat) : Nat :=
  if n < size then 1 else if b1 < lo ∨ hi < b1 then 1
  else if 2 < size ∧ (b2 < 128 ∨ 191 < b2) then 1 else if 3 < size ∧ (b3 < 128 ∨ 191 < b3) then 1 else size
def zwn (n b0 b1 b2 b3 : Nat) : Nat :=
  if b0 < 128 then 1
  else if 194 ≤ b0 ∧ b0 ≤ 223 then zgo n b1 b2 b3 2 128 191
  else if b0 = 224 then zgo n b1 b2 b3 3 160 191
  else if 225 ≤ b0 ∧ b0 ≤ 236 then zgo n b1 b2 b3 3 128 191
  else if b0 = 237 then zgo n b1 b2 b3 3 128 159
  else if 238 ≤ b0 ∧ b0 ≤ 239 then zgo n b1 b2 b3 3 128 191
  else if b0 = 240 then zgo n b1 b2 b3 4 144 191
  else if 241 ≤ b0 ∧ b0 ≤ 243 then zgo n b1 b2 b3 4 128 191
  else if b0 = 244 then zgo n b1 b2 b3 4 128 143
  else 1

theorem cls2 (n b0 b1 b2 b3 : Nat) (h : 194 ≤ b0 ∧ b0 ≤ 223) (h1 : b1 < 256) : zgo n b1 b2 b3 2 128 191 = dwn n b0 b1 b2 b3 := by
  have e0 : ¬ b0 < 128 := by omega
  have e1 : b0 / 32 = 6 := by omega
  have e2 : ¬ b0 / 16 = 14 := by omega
  have e3 : ¬ b0 / 8 = 30 := by omega
  have e4 : 128 ≤ b0 % 32 * 64 + b1 % 64 := by omega
  unfold dwn zgo
  rw [if_neg e0]
  simp only [e1, e2, e3, e4, true_and, false_and, if_false, if_true, ge_iff_le]
  repeat' split
  all_goals omega

theorem cls3 (n b0 b1 b2 b3 lo hi : Nat) (h : 224 ≤ b0 ∧ b0 ≤ 239) (h1 : b1 < 256) (h2 : b2 < 256)
    (hl : (b0 = 224 ∧ lo = 160 ∧ hi = 191) ∨ (b0 = 237 ∧ lo = 128 ∧ hi = 159) ∨ (b0 ≠ 224 ∧ b0 ≠ 237 ∧ lo = 128 ∧ hi = 191)) : zgo n b1 b2 b3 3 lo hi = dwn n b0 b1 b2 b3 := by
  have e0 : ¬ b0 < 128 := by omega
  have e1 : ¬ b0 / 32 = 6 := by omega
  have e2 : b0 / 16 = 14 := by omega
  have e3 : ¬ b0 / 8 = 30 := by omega
  unfold dwn zgo
  rw [if_neg e0]
  simp only [e1, e2, e3, true_and, false_and, if_false, ge_iff_le, valid_iff]
  by_cases g : (1 < n ∧ b1 / 64 = 2) ∧ 2 < n ∧ b2 / 64 = 2
  · rw [if_pos g]
    by_cases k : b1 < lo ∨ hi < b1
    · rw [if_neg (by omega), if_pos k, if_neg (by omega)]
    · rw [if_neg (by omega), if_neg k, if_neg (by omega), if_neg (by omega), if_pos (by omega)]
  · rw [if_neg g]
    repeat' split
    all_goals omega

theorem cls4 (n b0 b1 b2 b3 lo hi : Nat) (h : 240 ≤ b0 ∧ b0 ≤ 244) (h1 : b1 < 256) (h2 : b2 < 256) (h3 : b3 < 256)
    (hl : (b0 = 240 ∧ lo = 144 ∧ hi = 191) ∨ (b0 = 244 ∧ lo = 128 ∧ hi = 143) ∨ (b0 ≠ 240 ∧ b0 ≠ 244 ∧ lo = 128 ∧ hi = 191)) : zgo n b1 b2 b3 4 lo hi = dwn n b0 b1 b2 b3 := by
  have e0 : ¬ b0 < 128 := by omega
  have e1 : ¬ b0 / 32 = 6 := by omega
  have e2 : ¬ b0 / 16 = 14 := by omega
  have e3 : b0 / 8 = 30 := by omega
  unfold dwn zgo
  rw [if_neg e0]
  simp only [e1, e2, e3, true_and, false_and, if_false, ge_iff_le, valid_iff]
  by_cases g : (1 < n ∧ b1 / 64 = 2) ∧ (2 < n ∧ b2 / 64 = 2) ∧ 3 < n ∧ b3 / 64 = 2
  · rw [if_pos g]
    by_cases k : b1 < lo ∨ hi < b1
    · rw [if_neg (by omega), if_pos k, if_neg (by omega)]
    · rw [if_neg (by omega), if_neg k, if_neg (by omega), if_neg (by omega), if_pos (by omega)]
  · rw [if_neg g]
    repeat' split
    all_goals omega

theorem cls0 (n b0 b1 b2 b3 : Nat) (h0 : b0 < 256) (h1 : b1 < 256) (c0 : ¬ b0 < 128) (h : b0 < 194 ∨ 244 < b0) : dwn n b0 b1 b2 b3 = 1 := by
  unfold dwn
  rw [if_neg c0]
  by_cases g : b0 / 32 = 6 ∧ 1 < n ∧ b1 / 64 = 2
  · rw [if_pos g, if_neg (by omega)]
  · have e2 : ¬ b0 / 16 = 14 := by omega
    rw [if_neg g]
    simp only [e2, false_and, if_false, ge_iff_le, valid_iff]
    by_cases k : b0 / 8 = 30 ∧ (1 < n ∧ b1 / 64 = 2) ∧ (2 < n ∧ b2 / 64 = 2) ∧ 3 < n ∧ b3 / 64 = 2
    · rw [if_pos k, if_neg (by omega)]
    · rw [if_neg k]

theorem zwn_eq (n b0 b1 b2 b3 : Nat) (h0 : b0 < 256) (h1 : b1 < 256) (h2 : b2 < 256) (h3 : b3 < 256) : zwn n b0 b1 b2 b3 = dwn n b0 b1 b2 b3 := by
  unfold zwn
  by_cases c0 : b0 < 128
  · rw [if_pos c0]; unfold dwn; rw [if_pos c0]
  · rw [if_neg c0]
    by_cases c1 : 194 ≤ b0 ∧ b0 ≤ 223
    · rw [if_pos c1]; exact cls2 n b0 b1 b2 b3 c1 h1
    · rw [if_neg c1]
      by_cases c2 : b0 = 224
      · rw [if_pos c2]; exact cls3 n b0 b1 b2 b3 _ _ (by omega) h1 h2 (by omega)
      · rw [if_neg c2]
        by_cases c3 : 225 ≤ b0 ∧ b0 ≤ 236
        · rw [if_pos c3]; exact cls3 n b0 b1 b2 b3 _ _ (by omega) h1 h2 (by omega)
        · rw [if_neg c3]
          by_cases c4 : b0 = 237
          · rw [if_pos c4]; exact cls3 n b0 b1 b2 b3 _ _ (by omega) h1 h2 (by omega)
          · rw [if_neg c4]
            by_cases c5 : 238 ≤ b0 ∧ b0 ≤ 239
            · rw [if_pos c5]; exact cls3 n b0 b1 b2 b3 _ _ (by omega) h1 h2 (by omega)
            · rw [if_neg c5]
              by_cases c6 : b0 = 240
              · rw [if_pos c6]; exact cls4 n b0 b1 b2 b3 _ _ (by omega) h1 h2 h3 (by omega)
              · rw [if_neg c6]
                by_cases c7 : 241 ≤ b0 ∧ b0 ≤ 243
                · rw [if_pos c7]; exact cls4 n b0 b1 b2 b3 _ _ (by omega) h1 h2 h3 (by omega)
                · rw [if_neg c7]
                  by_cases c8 : b0 = 244
                  · rw [if_pos c8]; exact cls4 n b0 b1 b2 b3 _ _ (by omega) h1 h2 h3 (by omega)
                  · rw [if_neg c8, cls0 n b0 b1 b2 b3 h0 h1 c0 (by omega)]

end Go.Proofs.Qxb6615024a.Plain
