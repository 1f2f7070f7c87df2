/-
  FnFmtSPadsFirstPrecRunes (function 5): the walk.
-/
import Derived.Test.YoeehwDoorModel
import Derived.Laws.IdiomStrings
namespace Go.Proofs.YoeehwDoor
open Go.RowKit

set_option maxHeartbeats 400000 in
theorem zb20 (s : ByteArray) (wid prec : Int) (wp pp mi ze : Bool) (w : World) (hs : s.size ≤ maxLen) :
    Calls Eehg.prog 20 #[.string s, .int .i64 wid, .bool wp, .int .i64 prec, .bool pp, .bool mi, .bool ze] w fun e w' => (∃ r, e = .returned (.bool r)) ∧ w = w' := by
  unfold maxLen at hs
  go_enter Eehg.func20, Eehg.ntmps20
  go_wp2
  all_goals go_ret
  all_goals exact ⟨⟨_, rfl⟩, rfl⟩

set_option maxRecDepth 100000 in
set_option maxHeartbeats 400000 in
theorem lawD_early (s : ByteArray) (wid prec : Int) (wp pp mi ze : Bool) (w : World) (hs : s.size ≤ maxLen) (hc : ¬ (s.size ≤ 65536 ∧ -65536 ≤ wid ∧ wid ≤ 65536 ∧ (pp = true → -65536 ≤ prec))) :
    Calls Eehg.prog 5 #[.string s, .int .i64 wid, .bool wp, .int .i64 prec, .bool pp, .bool mi, .bool ze] w fun e w' => e = .returned (.bool true) ∧ Below w.heap.size w w' := by
  have hz := zb20 s wid prec wp pp mi ze w hs
  unfold maxLen at hs
  by_cases c1 : s.size ≤ 65536
  · by_cases c4 : -65536 ≤ wid
    · by_cases c5 : wid ≤ 65536
      · have c6 : pp = true ∧ prec < -65536 := by
          cases pp
          · exact absurd ⟨c1, c4, c5, fun h => by cases h⟩ hc
          · refine ⟨rfl, ?_⟩
            by_cases h : prec < -65536
            · exact h
            · exact absurd ⟨c1, c4, c5, fun _ => by omega⟩ hc
        clear hc
        obtain ⟨rfl, c6⟩ := c6
        go_enter Eehg.func5, Eehg.ntmps5
        go_wp2_with (go_at_call 20; refine hz.mono ?_; rintro e w' ⟨⟨r, rfl⟩, rfl⟩; cases r)
        all_goals go_ret
        all_goals exact ⟨rfl, Below.refl _ _⟩
      · clear hc
        go_enter Eehg.func5, Eehg.ntmps5
        go_wp2_with (go_at_call 20; refine hz.mono ?_; rintro e w' ⟨⟨r, rfl⟩, rfl⟩; cases r)
        all_goals go_ret
        all_goals exact ⟨rfl, Below.refl _ _⟩
    · clear hc
      go_enter Eehg.func5, Eehg.ntmps5
      go_wp2_with (go_at_call 20; refine hz.mono ?_; rintro e w' ⟨⟨r, rfl⟩, rfl⟩; cases r)
      all_goals go_ret
      all_goals exact ⟨rfl, Below.refl _ _⟩
  · clear hc
    go_enter Eehg.func5, Eehg.ntmps5
    go_wp2_with (go_at_call 20; refine hz.mono ?_; rintro e w' ⟨⟨r, rfl⟩, rfl⟩; cases r)
    all_goals go_ret
    all_goals exact ⟨rfl, Below.refl _ _⟩

/-- The bytes of '[]byte(s)'. -/
theorem conv_bytes (w : World) (s : ByteArray) (C : Nat) (fr : Nat × Nat) : BytesAt (w.alloc (.cells (bytesRow s C) 5 fr)) (some ⟨w.heap.size, 0, none⟩) s.size s.data.toList := by
  refine ⟨by rw [Array.length_toList]; rfl, fun j h => ⟨_, 0, rfl, ?_⟩⟩
  rw [Nat.zero_add, cell_of_row _ _ _ _ _ _ (heap_alloc_new w _)]
  have h' : j < s.size := by simpa using h
  simp [bytesRow, Array.getElem?_append, h']

theorem around_len (s : ByteArray) (wid prec : Int) (wp pp mi : Bool) (k : Nat) (c : UInt8) (hs : s.size ≤ 65536) (hw : wid ≤ 65536) : (around (trunc s prec pp).data.toList (padS wid wp k) c (!mi)).length ≤ 1000000000 := by
  have h1 := trunc_le s prec pp
  have h2 : (trunc s prec pp).data.toList.length = (trunc s prec pp).size := Array.length_toList
  have h3 : padS wid wp k ≤ 65536 := by
    unfold padS
    split <;> omega
  unfold around
  split <;> rw [List.length_append, List.length_replicate] <;> omega

set_option maxRecDepth 100000 in
set_option maxHeartbeats 1000000 in
theorem lawD_main (s : ByteArray) (wid prec : Int) (wp pp mi ze : Bool) (w : World) (hw : 2 ≤ w.heap.size) (hmax : w.cell? ⟨0, 0, none⟩ = some (.int .i64 2147483647))
    (c1 : s.size ≤ 65536) (c4 : -65536 ≤ wid) (c5 : wid ≤ 65536) (Hp : Hid (pp = true → -65536 ≤ prec)) (d2 : prec ≤ 9223372036854775807) :
    Calls Eehg.prog 5 #[.string s, .int .i64 wid, .bool wp, .int .i64 prec, .bool pp, .bool mi, .bool ze] w fun e w' => e = .returned (.bool true) ∧ Below w.heap.size w w' := by
  have hz := zb20 s wid prec wp pp mi ze w (by unfold maxLen; omega)
  go_enter Eehg.func5, Eehg.ntmps5
  go_upto_region 7 with (go_at_call 20; refine hz.mono ?_; rintro e w' ⟨⟨r, rfl⟩, rfl⟩; cases r)
  · go_ret
    exact ⟨rfl, Below.refl _ _⟩
  · go_cut [39] from 35 to 39 (fun s39 wx => w = wx ∧ s39 = .bool false)
    case first =>
      cases pp
      · go_wp2_with fail
        go_meet
        case rel => exact ⟨rfl, rfl⟩
      · have hp := Hp.out rfl
        go_wp2_with fail
        go_meet
        case rel => exact ⟨rfl, by simp; omega⟩
    case rest =>
      obtain ⟨rfl, rfl⟩ := hcut
      obtain ⟨c, HC⟩ : ∃ c : UInt8, Hid (c = (if ze then 48 else 32)) := ⟨_, rfl⟩
      obtain ⟨k, hk⟩ := exists_cnt (trunc s prec pp)
      have HK := hide hk
      clear hk
      go_wp2_with fail
      refine (new_fb wid prec wp pp mi false false false ze _ hw hmax).mono ?_
      rintro e w1 ⟨rfl, hF1, -, hB1, hS1⟩
      have HS1 := hide hS1
      clear hS1
      go_wp2_with fail
      refine (zfmtS_any w1 _ _ _ ⟨wid, prec, wp, pp, mi, false, false, ze⟩ s k c HC hF1 HK.out c1 c4 c5 Hp.out d2).mono ?_
      rintro e w2 ⟨rfl, hF2, hK2⟩
      have hB2 : Below w.heap.size w w2 := hB1.trans (hK2.below (Nat.le_refl _) (by omega))
      have hS2 := hB2.size
      clear hF1 hK2 hB1
      have hcv := fun w s => run_bytes_of_string (P := Eehg.prog) w 9 22 5 s Eehg.underlying9 Eehg.underlying22 Eehg.underlying5
      go_wp2_with fail
      clear hcv
      have hge := grownCap_ge w2 s.size 0 5
      generalize grownCap w2 s.size 0 5 = C at *
      have hB3 : Below w2.heap.size w2 (w2.alloc (.cells (bytesRow s C) 5 ((bytesRow s C).size, (bytesRow s C).size + 1))).drew := ((Below.refl _ _).alloc (Nat.le_refl _) _).drew
      refine (textM_any _ w2.heap.size 0 s.size C wid prec wp pp mi ze s k c HC (by exact conv_bytes w2 s C _) c1 hge d2 HK.out c4 c5).mono ?_
      rintro e w4 ⟨⟨a4, n4, cp4, rfl, hy4⟩, hb4⟩
      have hB4 : Below w2.heap.size w2 w4 := hB3.trans (hb4.mono hB3.size)
      have hF4 := hF2.below hB4
      clear hB3 hb4
      go_wp2_with fail
      refine (buf_any w4 _ _ _ _ _ hF4).mono ?_
      rintro e w' ⟨⟨a5, n5, c5', rfl, hown5⟩, rfl⟩
      go_wp2_with fail
      refine (equal_same w' a5 a4 n5 n4 c5' cp4 _ (BytesAt.of_own hown5) hy4 (around_len s wid prec wp pp mi k c c1 c5)).mono ?_
      rintro e w8 ⟨rfl, q, rfl⟩
      go_wp2_with fail
      go_ret
      exact ⟨rfl, (hB2.trans (hB4.mono hS2)).trans ⟨rfl, rfl, rfl, Nat.le_refl _, fun _ _ => rfl⟩⟩

/-- THE LAW: whatever the input. -/
theorem lawD (s : ByteArray) (wid prec : Int) (wp pp mi ze : Bool) (w : World) (hw : 2 ≤ w.heap.size) (hmax : w.cell? ⟨0, 0, none⟩ = some (.int .i64 2147483647)) (hs : s.size ≤ maxLen) (d2 : prec ≤ 9223372036854775807) :
    Calls Eehg.prog 5 #[.string s, .int .i64 wid, .bool wp, .int .i64 prec, .bool pp, .bool mi, .bool ze] w fun e w' => e = .returned (.bool true) ∧ Below w.heap.size w w' := by
  by_cases hc : s.size ≤ 65536 ∧ -65536 ≤ wid ∧ wid ≤ 65536 ∧ (pp = true → -65536 ≤ prec)
  · exact lawD_main s wid prec wp pp mi ze w hw hmax hc.1 hc.2.1 hc.2.2.1 hc.2.2.2 d2
  · exact lawD_early s wid prec wp pp mi ze w hs hc

end Go.Proofs.YoeehwDoor
