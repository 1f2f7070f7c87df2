/-
  RUNES, PLAIN: the width that Go's decoder gives at a place of a string, as the law's own zzWidth reckons it; the place behind k runes; how many runes there are. No walk here.
-/
import GoSem.Core.Utf8
namespace Go.Proofs.YoeehwDoor
open Go

/-- The width of the rune at place p. -/
def wd (s : ByteArray) (p : Nat) : Nat := (Utf8.decode s p).2

/-- The byte at place p (as the model's decoder reads it). -/
def by8 (s : ByteArray) (p : Nat) : Nat := (s.get! p).toNat

/-- zzWidth's n, lo, hi by the first byte. -/
def nOf (b : Nat) : Nat := if 194 ≤ b ∧ b ≤ 223 then 2 else if 224 ≤ b ∧ b ≤ 239 then 3 else if 240 ≤ b ∧ b ≤ 244 then 4 else 0
def loOf (b : Nat) : Nat := if b = 224 then 160 else if b = 240 then 144 else 128
def hiOf (b : Nat) : Nat := if b = 237 then 159 else if b = 244 then 143 else 191

/-- zzWidth as a function of four bytes and of how many bytes are left. -/
def zw (b0 b1 b2 b3 r : Nat) : Nat :=
  if b0 < 128 then 1 else if nOf b0 = 0 then 1 else if r < nOf b0 then 1 else if b1 < loOf b0 ∨ hiOf b0 < b1 then 1
  else if 3 ≤ nOf b0 ∧ (b2 < 128 ∨ 191 < b2) then 1 else if 4 ≤ nOf b0 ∧ (b3 < 128 ∨ 191 < b3) then 1 else nOf b0

/-- The decoder's width as a function of the same. -/
def dw (b0 b1 b2 b3 r : Nat) : Nat :=
  if b0 < 128 then 1
  else if b0 / 32 = 6 ∧ 1 < r ∧ b1 / 64 = 2 then (if 128 ≤ b0 % 32 * 64 + b1 % 64 then 2 else 1)
  else if b0 / 16 = 14 ∧ 1 < r ∧ b1 / 64 = 2 ∧ 2 < r ∧ b2 / 64 = 2 then
    (let c := b0 % 16 * 4096 + b1 % 64 * 64 + b2 % 64
     if 2048 ≤ c ∧ (c < 55296 ∨ (57344 ≤ c ∧ c ≤ 1114111)) then 3 else 1)
  else if b0 / 8 = 30 ∧ 1 < r ∧ b1 / 64 = 2 ∧ 2 < r ∧ b2 / 64 = 2 ∧ 3 < r ∧ b3 / 64 = 2 then
    (let c := b0 % 8 * 262144 + b1 % 64 * 4096 + b2 % 64 * 64 + b3 % 64
     if 65536 ≤ c ∧ (c < 55296 ∨ (57344 ≤ c ∧ c ≤ 1114111)) then 4 else 1)
  else 1

theorem nOf0 {b : Nat} (h : b < 194 ∨ 244 < b) : nOf b = 0 := by unfold nOf; rw [if_neg (by omega), if_neg (by omega), if_neg (by omega)]
theorem nOf2 {b : Nat} (h : 194 ≤ b) (h' : b ≤ 223) : nOf b = 2 := by unfold nOf; rw [if_pos (by omega)]
theorem nOf3 {b : Nat} (h : 224 ≤ b) (h' : b ≤ 239) : nOf b = 3 := by unfold nOf; rw [if_neg (by omega), if_pos (by omega)]
theorem nOf4 {b : Nat} (h : 240 ≤ b) (h' : b ≤ 244) : nOf b = 4 := by unfold nOf; rw [if_neg (by omega), if_neg (by omega), if_pos (by omega)]

theorem dw2 (b0 b1 b2 b3 r : Nat) (h : 194 ≤ b0) (h' : b0 ≤ 223) (h1 : b1 < 256) : dw b0 b1 b2 b3 r = zw b0 b1 b2 b3 r := by
  unfold dw zw
  rw [nOf2 h h', if_neg (show ¬ b0 < 128 by omega), if_neg (show ¬ b0 < 128 by omega), if_neg (show ¬ (2 : Nat) = 0 by omega)]
  have hlo : loOf b0 = 128 := by unfold loOf; rw [if_neg (by omega), if_neg (by omega)]
  have hhi : hiOf b0 = 191 := by unfold hiOf; rw [if_neg (by omega), if_neg (by omega)]
  rw [hlo, hhi, if_neg (show ¬ ((3 : Nat) ≤ 2 ∧ (b2 < 128 ∨ 191 < b2)) by omega), if_neg (show ¬ ((4 : Nat) ≤ 2 ∧ (b3 < 128 ∨ 191 < b3)) by omega)]
  by_cases hc : b0 / 32 = 6 ∧ 1 < r ∧ b1 / 64 = 2
  · rw [if_pos hc, if_pos (by omega), if_neg (by omega), if_neg (by omega)]
  · rw [if_neg hc, if_neg (by omega), if_neg (by omega)]
    by_cases hr : r < 2
    · rw [if_pos hr]
    · rw [if_neg hr, if_pos (by omega)]

theorem dw3 (b0 b1 b2 b3 r : Nat) (h : 224 ≤ b0) (h' : b0 ≤ 239) (h1 : b1 < 256) (h2 : b2 < 256) : dw b0 b1 b2 b3 r = zw b0 b1 b2 b3 r := by
  unfold dw zw
  rw [nOf3 h h', if_neg (show ¬ b0 < 128 by omega), if_neg (show ¬ b0 < 128 by omega), if_neg (show ¬ (3 : Nat) = 0 by omega), if_neg (show ¬ (b0 / 32 = 6 ∧ 1 < r ∧ b1 / 64 = 2) by omega)]
  rw [if_neg (show ¬ ((4 : Nat) ≤ 3 ∧ (b3 < 128 ∨ 191 < b3)) by omega)]
  dsimp only
  by_cases hr : r < 3
  · rw [if_pos hr, if_neg (by omega), if_neg (by omega)]
  · rw [if_neg hr, if_neg (show ¬ (b0 / 8 = 30 ∧ 1 < r ∧ b1 / 64 = 2 ∧ 2 < r ∧ b2 / 64 = 2 ∧ 3 < r ∧ b3 / 64 = 2) by omega)]
    by_cases e1 : b0 = 224
    · subst e1
      rw [show loOf 224 = 160 from rfl, show hiOf 224 = 191 from rfl]
      repeat' split
      all_goals omega
    · by_cases e2 : b0 = 237
      · subst e2
        rw [show loOf 237 = 128 from rfl, show hiOf 237 = 159 from rfl]
        repeat' split
        all_goals omega
      · have hlo : loOf b0 = 128 := by unfold loOf; rw [if_neg (by omega), if_neg (by omega)]
        have hhi : hiOf b0 = 191 := by unfold hiOf; rw [if_neg (by omega), if_neg (by omega)]
        rw [hlo, hhi]
        repeat' split
        all_goals omega

theorem dw4 (b0 b1 b2 b3 r : Nat) (h : 240 ≤ b0) (h' : b0 ≤ 244) (h1 : b1 < 256) (h2 : b2 < 256) (h3 : b3 < 256) : dw b0 b1 b2 b3 r = zw b0 b1 b2 b3 r := by
  unfold dw zw
  rw [nOf4 h h', if_neg (show ¬ b0 < 128 by omega), if_neg (show ¬ b0 < 128 by omega), if_neg (show ¬ (4 : Nat) = 0 by omega), if_neg (show ¬ (b0 / 32 = 6 ∧ 1 < r ∧ b1 / 64 = 2) by omega), if_neg (show ¬ (b0 / 16 = 14 ∧ 1 < r ∧ b1 / 64 = 2 ∧ 2 < r ∧ b2 / 64 = 2) by omega)]
  dsimp only
  by_cases hr : r < 4
  · rw [if_pos hr, if_neg (by omega)]
  · rw [if_neg hr]
    by_cases e1 : b0 = 240
    · subst e1
      rw [show loOf 240 = 144 from rfl, show hiOf 240 = 191 from rfl]
      repeat' split
      all_goals omega
    · by_cases e2 : b0 = 244
      · subst e2
        rw [show loOf 244 = 128 from rfl, show hiOf 244 = 143 from rfl]
        repeat' split
        all_goals omega
      · have hlo : loOf b0 = 128 := by unfold loOf; rw [if_neg (by omega), if_neg (by omega)]
        have hhi : hiOf b0 = 191 := by unfold hiOf; rw [if_neg (by omega), if_neg (by omega)]
        rw [hlo, hhi]
        repeat' split
        all_goals omega

theorem dw_zw (b0 b1 b2 b3 r : Nat) (h0 : b0 < 256) (h1 : b1 < 256) (h2 : b2 < 256) (h3 : b3 < 256) : dw b0 b1 b2 b3 r = zw b0 b1 b2 b3 r := by
  by_cases c1 : b0 < 128
  · unfold dw zw; rw [if_pos c1, if_pos c1]
  · by_cases c2 : b0 < 194
    · unfold dw zw
      rw [nOf0 (by omega), if_neg c1, if_neg c1, if_pos rfl, if_neg (show ¬ (b0 / 16 = 14 ∧ 1 < r ∧ b1 / 64 = 2 ∧ 2 < r ∧ b2 / 64 = 2) by omega), if_neg (show ¬ (b0 / 8 = 30 ∧ 1 < r ∧ b1 / 64 = 2 ∧ 2 < r ∧ b2 / 64 = 2 ∧ 3 < r ∧ b3 / 64 = 2) by omega)]
      repeat' split
      all_goals omega
    · by_cases c3 : b0 ≤ 223
      · exact dw2 b0 b1 b2 b3 r (by omega) c3 h1
      · by_cases c4 : b0 ≤ 239
        · exact dw3 b0 b1 b2 b3 r (by omega) c4 h1 h2
        · by_cases c5 : b0 ≤ 244
          · exact dw4 b0 b1 b2 b3 r (by omega) c5 h1 h2 h3
          · unfold dw zw
            rw [nOf0 (by omega), if_neg c1, if_neg c1, if_pos rfl, if_neg (show ¬ (b0 / 32 = 6 ∧ 1 < r ∧ b1 / 64 = 2) by omega), if_neg (show ¬ (b0 / 16 = 14 ∧ 1 < r ∧ b1 / 64 = 2 ∧ 2 < r ∧ b2 / 64 = 2) by omega)]
            dsimp only
            repeat' split
            all_goals omega

theorem by8_lt (s : ByteArray) (p : Nat) : by8 s p < 256 := (s.get! p).toNat_lt

theorem wd_dw (s : ByteArray) (i : Nat) : wd s i = dw (by8 s i) (by8 s (i + 1)) (by8 s (i + 2)) (by8 s (i + 3)) (s.size - i) := by
  unfold wd Utf8.decode dw
  have e0 : (s.get! (i + 0)).toNat = by8 s i := rfl
  have e1 : (s.get! (i + 1)).toNat = by8 s (i + 1) := rfl
  have e2 : (s.get! (i + 2)).toNat = by8 s (i + 2) := rfl
  have e3 : (s.get! (i + 3)).toNat = by8 s (i + 3) := rfl
  dsimp only
  simp only [e0, e1, e2, e3]
  generalize by8 s i = b0
  generalize by8 s (i + 1) = b1
  generalize by8 s (i + 2) = b2
  generalize by8 s (i + 3) = b3
  simp only [Utf8.valid, Bool.and_eq_true, Bool.or_eq_true, decide_eq_true_eq, beq_iff_eq, ge_iff_le]
  by_cases c1 : b0 < 128
  · rw [if_pos c1, if_pos c1]
  · rw [if_neg c1, if_neg c1]
    by_cases c2 : b0 / 32 = 6 ∧ 1 < s.size - i ∧ b1 / 64 = 2
    · rw [if_pos (show b0 / 32 = 6 ∧ i + 1 < s.size ∧ b1 / 64 = 2 by omega), if_pos c2]
      split <;> rfl
    · rw [if_neg (show ¬ (b0 / 32 = 6 ∧ i + 1 < s.size ∧ b1 / 64 = 2) by omega), if_neg c2]
      by_cases c3 : b0 / 16 = 14 ∧ 1 < s.size - i ∧ b1 / 64 = 2 ∧ 2 < s.size - i ∧ b2 / 64 = 2
      · rw [if_pos (show (b0 / 16 = 14 ∧ i + 1 < s.size ∧ b1 / 64 = 2) ∧ i + 2 < s.size ∧ b2 / 64 = 2 by omega), if_pos c3]
        generalize b0 % 16 * 4096 + b1 % 64 * 64 + b2 % 64 = c
        by_cases c5 : 2048 ≤ c ∧ (c < 55296 ∨ 57344 ≤ c ∧ c ≤ 1114111)
        · rw [if_pos c5, if_pos (by omega)]
        · rw [if_neg c5, if_neg (by omega)]
      · rw [if_neg (show ¬ ((b0 / 16 = 14 ∧ i + 1 < s.size ∧ b1 / 64 = 2) ∧ i + 2 < s.size ∧ b2 / 64 = 2) by omega), if_neg c3]
        by_cases c4 : b0 / 8 = 30 ∧ 1 < s.size - i ∧ b1 / 64 = 2 ∧ 2 < s.size - i ∧ b2 / 64 = 2 ∧ 3 < s.size - i ∧ b3 / 64 = 2
        · rw [if_pos (show ((b0 / 8 = 30 ∧ i + 1 < s.size ∧ b1 / 64 = 2) ∧ i + 2 < s.size ∧ b2 / 64 = 2) ∧ i + 3 < s.size ∧ b3 / 64 = 2 by omega), if_pos c4]
          generalize b0 % 8 * 262144 + b1 % 64 * 4096 + b2 % 64 * 64 + b3 % 64 = c
          by_cases c5 : 65536 ≤ c ∧ (c < 55296 ∨ 57344 ≤ c ∧ c ≤ 1114111)
          · rw [if_pos c5, if_pos (by omega)]
          · rw [if_neg c5, if_neg (by omega)]
        · rw [if_neg (show ¬ (((b0 / 8 = 30 ∧ i + 1 < s.size ∧ b1 / 64 = 2) ∧ i + 2 < s.size ∧ b2 / 64 = 2) ∧ i + 3 < s.size ∧ b3 / 64 = 2) by omega), if_neg c4]

/-- THE DECODER's WIDTH IS zzWidth's. -/
theorem wd_zw (s : ByteArray) (i : Nat) : wd s i = zw (by8 s i) (by8 s (i + 1)) (by8 s (i + 2)) (by8 s (i + 3)) (s.size - i) := by
  rw [wd_dw, dw_zw _ _ _ _ _ (by8_lt _ _) (by8_lt _ _) (by8_lt _ _) (by8_lt _ _)]

theorem zw_bd (b0 b1 b2 b3 r : Nat) (hr : 0 < r) : 1 ≤ zw b0 b1 b2 b3 r ∧ zw b0 b1 b2 b3 r ≤ r := by
  unfold zw
  repeat' split
  all_goals omega

theorem wd_pos (s : ByteArray) (p : Nat) (h : p < s.size) : 1 ≤ wd s p := by rw [wd_zw]; exact (zw_bd _ _ _ _ _ (by omega)).1
theorem wd_le (s : ByteArray) (p : Nat) (h : p < s.size) : p + wd s p ≤ s.size := by
  have := (zw_bd (by8 s p) (by8 s (p + 1)) (by8 s (p + 2)) (by8 s (p + 3)) (s.size - p) (by omega)).2
  rw [wd_zw]
  omega

/-- The place behind k runes (the end, where there are fewer). -/
def offTo (s : ByteArray) : Nat → Nat
  | 0 => 0
  | k + 1 => if offTo s k < s.size then offTo s k + wd s (offTo s k) else offTo s k

theorem offTo_le (s : ByteArray) (k : Nat) : offTo s k ≤ s.size := by
  induction k with
  | zero => exact Nat.zero_le _
  | succ k ih =>
    rw [offTo]
    split
    · exact wd_le s _ (by assumption)
    · exact ih

theorem offTo_next (s : ByteArray) (k : Nat) (h : offTo s k < s.size) : offTo s (k + 1) = offTo s k + wd s (offTo s k) := by rw [offTo, if_pos h]

theorem offTo_stay (s : ByteArray) (k : Nat) (h : ¬ offTo s k < s.size) : ∀ d, offTo s (k + d) = offTo s k := by
  intro d
  induction d with
  | zero => rfl
  | succ d ih => rw [← Nat.add_assoc, offTo, ih, if_neg h]

theorem offTo_mono (s : ByteArray) (k d : Nat) : offTo s k ≤ offTo s (k + d) := by
  induction d with
  | zero => exact Nat.le_refl _
  | succ d ih =>
    rw [← Nat.add_assoc, offTo]
    split <;> omega

/-- There are k runes. -/
def IsCnt (s : ByteArray) (k : Nat) : Prop := offTo s k = s.size ∧ ∀ j, j < k → offTo s j < s.size

theorem IsCnt.unique {s : ByteArray} {k k' : Nat} (h : IsCnt s k) (h' : IsCnt s k') : k = k' := by
  rcases Nat.lt_trichotomy k k' with hl | hl | hl
  · have := h'.2 k hl; have := h.1; omega
  · exact hl
  · have := h.2 k' hl; have := h'.1; omega

/-- At most as many as there are bytes: each round goes on by one at least. -/
theorem offTo_ge (s : ByteArray) (k : Nat) (h : ∀ j, j < k → offTo s j < s.size) : k ≤ offTo s k := by
  induction k with
  | zero => exact Nat.zero_le _
  | succ k ih =>
    have h1 := ih (fun j hj => h j (by omega))
    have h2 := h k (by omega)
    have h3 := wd_pos s _ h2
    rw [offTo_next s k h2]
    omega

theorem IsCnt.le {s : ByteArray} {k : Nat} (h : IsCnt s k) : k ≤ s.size := by
  have := offTo_ge s k h.2
  have := h.1
  omega

end Go.Proofs.YoeehwDoor
