/-
  FnFmtSbxStringAgreesWithBytes (function 10): the walk.
-/
import Derived.Test.YoeehwDoorSbx
import Derived.Test.YoeehwDoorEq
import Derived.Laws.IdiomStrings
namespace Go.Proofs.YoeehwDoor
open Go.RowKit

/-- The bytes of '[]byte(s)'. -/
theorem conv_cells (w : World) (s : ByteArray) (C : Nat) (fr : Nat × Nat) : ∀ j, (h : j < s.data.toList.length) → (w.alloc (.cells (bytesRow s C) 5 fr)).cell? ⟨w.heap.size, 0 + j, none⟩ = some (.int .u8 ((s.data.toList[j]'h).toNat : Int)) := by
  intro j h
  rw [cell_of_row _ _ _ _ _ _ (heap_alloc_new w _)]
  have h' : j < s.size := by simpa using h
  simp [bytesRow, Array.getElem?_append, h']

theorem lenOf_le (n : Nat) (prec : Int) (pp : Bool) : lenOf n prec pp ≤ n := by
  unfold lenOf
  cases pp
  · simp
  · by_cases h : prec < (n : Int) <;> simp [h]; omega

theorem sbxOut_le (src dg : List UInt8) (wid prec : Int) (wp pp mi sh sp : Bool) (c : UInt8) (hl : src.length ≤ 65536) (hw : wid ≤ 65536) : (sbxOut src dg wid prec wp pp mi sh sp c).length ≤ 1000000000 := by
  have hp : ∀ W, padN wid wp W ≤ 65536 := by
    intro W
    unfold padN
    split <;> omega
  have h0 := lenOf_le src.length prec pp
  unfold sbxOut
  split
  · have := hp 0
    rw [List.length_replicate]
    omega
  · have h1 := sbxTo_le dg sh sp src (lenOf src.length prec pp).toNat
    have h2 := hp (wide sh sp (lenOf src.length prec pp).toNat)
    dsimp only
    split <;> rw [List.length_append, List.length_replicate] <;> omega

set_option maxHeartbeats 400000 in
theorem zb33 (s dg : ByteArray) (wid prec : Int) (wp pp mi sh sp ze : Bool) (w : World) (hs : s.size ≤ maxLen) (hd : dg.size ≤ maxLen) :
    Calls Eehg.prog 33 #[.string s, .string dg, .int .i64 wid, .bool wp, .int .i64 prec, .bool pp, .bool mi, .bool sh, .bool sp, .bool ze] w fun e w' => (∃ r, e = .returned (.bool r)) ∧ w = w' := by
  unfold maxLen at hs hd
  go_enter Eehg.func33, Eehg.ntmps33
  go_wp2
  all_goals go_ret
  all_goals exact ⟨⟨_, rfl⟩, rfl⟩

set_option maxRecDepth 100000 in
set_option maxHeartbeats 400000 in
theorem lawA_early (s dg : ByteArray) (wid prec : Int) (wp pp mi sh sp ze : Bool) (w : World) (hs : s.size ≤ maxLen) (hd : dg.size ≤ maxLen)
    (hc : ¬ (s.size ≤ 65536 ∧ dg.size ≤ 65536 ∧ 17 ≤ dg.size ∧ -65536 ≤ wid ∧ wid ≤ 65536 ∧ (pp = true → -65536 ≤ prec))) :
    Calls Eehg.prog 10 #[.string s, .string dg, .int .i64 wid, .bool wp, .int .i64 prec, .bool pp, .bool mi, .bool sh, .bool sp, .bool ze] w fun e w' => e = .returned (.bool true) ∧ Below w.heap.size w w' := by
  have hz := zb33 s dg wid prec wp pp mi sh sp ze w hs hd
  unfold maxLen at hs hd
  by_cases c1 : s.size ≤ 65536
  · by_cases c2 : dg.size ≤ 65536
    · by_cases c3 : 17 ≤ dg.size
      · by_cases c4 : -65536 ≤ wid
        · by_cases c5 : wid ≤ 65536
          · have c6 : pp = true ∧ prec < -65536 := by
              cases pp
              · exact absurd ⟨c1, c2, c3, c4, c5, fun h => by cases h⟩ hc
              · refine ⟨rfl, ?_⟩
                by_cases h : prec < -65536
                · exact h
                · exact absurd ⟨c1, c2, c3, c4, c5, fun _ => by omega⟩ hc
            clear hc
            obtain ⟨rfl, c6⟩ := c6
            go_enter Eehg.func10, Eehg.ntmps10
            go_wp2_with (go_at_call 33; refine hz.mono ?_; rintro e w' ⟨⟨r, rfl⟩, rfl⟩; cases r)
            all_goals go_ret
            all_goals exact ⟨rfl, Below.refl _ _⟩
          · clear hc
            go_enter Eehg.func10, Eehg.ntmps10
            go_wp2_with (go_at_call 33; refine hz.mono ?_; rintro e w' ⟨⟨r, rfl⟩, rfl⟩; cases r)
            all_goals go_ret
            all_goals exact ⟨rfl, Below.refl _ _⟩
        · clear hc
          go_enter Eehg.func10, Eehg.ntmps10
          go_wp2_with (go_at_call 33; refine hz.mono ?_; rintro e w' ⟨⟨r, rfl⟩, rfl⟩; cases r)
          all_goals go_ret
          all_goals exact ⟨rfl, Below.refl _ _⟩
      · clear hc
        go_enter Eehg.func10, Eehg.ntmps10
        go_wp2_with (go_at_call 33; refine hz.mono ?_; rintro e w' ⟨⟨r, rfl⟩, rfl⟩; cases r)
        all_goals go_ret
        all_goals exact ⟨rfl, Below.refl _ _⟩
    · clear hc
      go_enter Eehg.func10, Eehg.ntmps10
      go_wp2_with (go_at_call 33; refine hz.mono ?_; rintro e w' ⟨⟨r, rfl⟩, rfl⟩; cases r)
      all_goals go_ret
      all_goals exact ⟨rfl, Below.refl _ _⟩
  · clear hc
    go_enter Eehg.func10, Eehg.ntmps10
    go_wp2_with (go_at_call 33; refine hz.mono ?_; rintro e w' ⟨⟨r, rfl⟩, rfl⟩; cases r)
    all_goals go_ret
    all_goals exact ⟨rfl, Below.refl _ _⟩

set_option maxRecDepth 100000 in
set_option maxHeartbeats 1000000 in
theorem lawA_main (s dg : ByteArray) (wid prec : Int) (wp pp mi sh sp ze : Bool) (w : World) (hw : 2 ≤ w.heap.size) (hmax : w.cell? ⟨0, 0, none⟩ = some (.int .i64 2147483647))
    (c1 : s.size ≤ 65536) (c2 : dg.size ≤ 65536) (c3 : 17 ≤ dg.size) (c4 : -65536 ≤ wid) (c5 : wid ≤ 65536) (Hp : Hid (pp = true → -65536 ≤ prec)) :
    Calls Eehg.prog 10 #[.string s, .string dg, .int .i64 wid, .bool wp, .int .i64 prec, .bool pp, .bool mi, .bool sh, .bool sp, .bool ze] w fun e w' => e = .returned (.bool true) ∧ Below w.heap.size w w' := by
  have hz := zb33 s dg wid prec wp pp mi sh sp ze w (by unfold maxLen; omega) (by unfold maxLen; omega)
  go_enter Eehg.func10, Eehg.ntmps10
  go_upto_region 9 with (go_at_call 33; refine hz.mono ?_; rintro e w' ⟨⟨r, rfl⟩, rfl⟩; cases r)
  · go_ret
    exact ⟨rfl, Below.refl _ _⟩
  · go_cut [56] from 52 to 56 (fun s56 wx => w = wx ∧ s56 = .bool false)
    case first =>
      cases pp
      · go_wp2_with fail
        go_meet
        case rel => exact ⟨rfl, rfl⟩
      · have hp := Hp.out rfl
        go_wp2_with fail
        go_meet
        case rel => exact ⟨rfl, by simp; omega⟩
    case rest =>
      obtain ⟨rfl, rfl⟩ := hcut
      obtain ⟨c, HC⟩ : ∃ c : UInt8, Hid (c = (if ze then 48 else 32)) := ⟨_, rfl⟩
      go_wp2_with fail
      refine (new_fb wid prec wp pp mi false sh sp ze _ hw hmax).mono ?_
      rintro e w1 ⟨rfl, hF1, -, hB1, hS1⟩
      go_wp2_with fail
      refine (zsbx_any w1 _ _ _ ⟨wid, prec, wp, pp, mi, sh, sp, ze⟩ s dg none 0 0 s.data.toList c HC hF1 (.inl ⟨rfl, rfl, rfl, rfl⟩) (by simpa using c1) c4 c5 Hp.out c3).mono ?_
      rintro e w2 ⟨rfl, hF2, hK2⟩
      have hB2 : Below w.heap.size w w2 := hB1.trans (hK2.below (Nat.le_refl _) (by omega))
      have hS2 := hB2.size
      go_wp2_with fail
      refine (new_fb wid prec wp pp mi false sh sp ze _ (by omega) hF2.hmax).mono ?_
      rintro e w3 ⟨rfl, hF3, hv3, hB3, hS3⟩
      have HS3 := hide hS3
      clear hS3
      have hcv := fun w s => run_bytes_of_string (P := Eehg.prog) w 9 22 5 s Eehg.underlying9 Eehg.underlying22 Eehg.underlying5
      go_wp2_with fail
      clear hcv
      obtain ⟨C, hC⟩ : ∃ C, C = grownCap w3 s.size 0 5 := ⟨_, rfl⟩
      simp only [← hC]
      clear hC
      have hF4 := (hF3.raise (.cells (bytesRow s C) 5 ((bytesRow s C).size, (bytesRow s C).size + 1)) hv3).drew
      refine (zsbx_any _ (w3.heap.size + 1) w2.heap.size (w2.heap.size + 1) ⟨wid, prec, wp, pp, mi, sh, sp, ze⟩ _ dg _ _ _ s.data.toList c HC hF4 (.inr ⟨w3.heap.size, 0, rfl, by simp, by omega, by have := HS3.out; omega, conv_cells w3 s C _⟩) (by simpa using c1) c4 c5 Hp.out c3).mono ?_
      rintro e w5 ⟨rfl, hF5, hK5⟩
      have hB4 : Below w2.heap.size w2 (w3.alloc (.cells (bytesRow s C) 5 ((bytesRow s C).size, (bytesRow s C).size + 1))).drew := ((hB3.alloc (by have := HS3.out; omega) _).drew)
      have hB5 := hB4.trans (hK5.below (Nat.le_refl _) (by have := HS3.out; omega))
      clear hB4 hK5 hF3 hF4 hv3
      have hF2' := hF2.below hB5
      go_wp2_with fail
      refine (buf_any w5 _ _ _ _ _ hF2').mono ?_
      rintro e w' ⟨⟨a6, n6, c6, rfl, hown6⟩, rfl⟩
      go_wp2_with fail
      refine (buf_any w' _ _ _ _ _ hF5).mono ?_
      rintro e w'' ⟨⟨a7, n7, c7, rfl, hown7⟩, rfl⟩
      go_wp2_with fail
      refine (equal_same w'' a6 a7 n6 n7 c6 c7 _ (BytesAt.of_own hown6) (BytesAt.of_own hown7) (sbxOut_le _ _ _ _ _ _ _ _ _ _ (by simpa using c1) c5)).mono ?_
      rintro e w8 ⟨rfl, q, rfl⟩
      go_wp2_with fail
      go_ret
      exact ⟨rfl, (hB2.trans (hB5.mono hS2)).trans ⟨rfl, rfl, rfl, Nat.le_refl _, fun _ _ => rfl⟩⟩

/-- THE LAW: whatever the input. -/
theorem lawA (s dg : ByteArray) (wid prec : Int) (wp pp mi sh sp ze : Bool) (w : World) (hw : 2 ≤ w.heap.size) (hmax : w.cell? ⟨0, 0, none⟩ = some (.int .i64 2147483647)) (hs : s.size ≤ maxLen) (hd : dg.size ≤ maxLen) :
    Calls Eehg.prog 10 #[.string s, .string dg, .int .i64 wid, .bool wp, .int .i64 prec, .bool pp, .bool mi, .bool sh, .bool sp, .bool ze] w fun e w' => e = .returned (.bool true) ∧ Below w.heap.size w w' := by
  by_cases hc : s.size ≤ 65536 ∧ dg.size ≤ 65536 ∧ 17 ≤ dg.size ∧ -65536 ≤ wid ∧ wid ≤ 65536 ∧ (pp = true → -65536 ≤ prec)
  · obtain ⟨c1, c2, c3, c4, c5, c6⟩ := hc
    exact lawA_main s dg wid prec wp pp mi sh sp ze w hw hmax c1 c2 c3 c4 c5 c6
  · exact lawA_early s dg wid prec wp pp mi sh sp ze w hs hd hc

end Go.Proofs.YoeehwDoor
