/-
  FnFmtSbxHexModel (function 9): the walk.
-/
import Derived.Test.YoeehwDoorHex
import Derived.Test.YoeehwDoorLawA
namespace Go.Proofs.YoeehwDoor
open Go.RowKit

set_option maxHeartbeats 400000 in
theorem zb28 (s dg : ByteArray) (ao : Option Addr) (n cp : Nat) (wid prec : Int) (wp pp mi sh sp ze : Bool) (w : World) (hs : s.size ≤ maxLen) (hn : n ≤ maxLen) (hd : dg.size ≤ maxLen) :
    Calls Eehg.prog 28 #[.string s, .slice ao n cp, .string dg, .int .i64 wid, .bool wp, .int .i64 prec, .bool pp, .bool mi, .bool sh, .bool sp, .bool ze] w fun e w' => (∃ r, e = .returned (.bool r)) ∧ w = w' := by
  unfold maxLen at hs hd hn
  go_enter Eehg.func28, Eehg.ntmps28
  go_wp2
  all_goals go_ret
  all_goals exact ⟨⟨_, rfl⟩, rfl⟩

set_option maxRecDepth 100000 in
set_option maxHeartbeats 1000000 in
theorem lawB_early (s dg : ByteArray) (ao : Option Addr) (n cp : Nat) (wid prec : Int) (wp pp mi sh sp ze : Bool) (w : World) (hs : s.size ≤ maxLen) (hn : n ≤ maxLen) (hd : dg.size ≤ maxLen)
    (hc : ¬ (s.size ≤ 65536 ∧ n ≤ 65536 ∧ dg.size ≤ 65536 ∧ 17 ≤ dg.size ∧ -65536 ≤ wid ∧ wid ≤ 65536 ∧ (pp = true → -65536 ≤ prec))) :
    Calls Eehg.prog 9 #[.string s, .slice ao n cp, .string dg, .int .i64 wid, .bool wp, .int .i64 prec, .bool pp, .bool mi, .bool sh, .bool sp, .bool ze] w fun e w' => e = .returned (.bool true) ∧ Below w.heap.size w w' := by
  have hz := zb28 s dg ao n cp wid prec wp pp mi sh sp ze w hs hn hd
  unfold maxLen at hs hd hn
  by_cases c1 : s.size ≤ 65536
  · by_cases c0 : n ≤ 65536
    · by_cases c2 : dg.size ≤ 65536
      · by_cases c3 : 17 ≤ dg.size
        · by_cases c4 : -65536 ≤ wid
          · by_cases c5 : wid ≤ 65536
            · have c6 : pp = true ∧ prec < -65536 := by
                cases pp
                · exact absurd ⟨c1, c0, c2, c3, c4, c5, fun h => by cases h⟩ hc
                · refine ⟨rfl, ?_⟩
                  by_cases h : prec < -65536
                  · exact h
                  · exact absurd ⟨c1, c0, c2, c3, c4, c5, fun _ => by omega⟩ hc
              clear hc
              obtain ⟨rfl, c6⟩ := c6
              go_enter Eehg.func9, Eehg.ntmps9
              go_wp2_with (go_at_call 28; refine hz.mono ?_; rintro e w' ⟨⟨r, rfl⟩, rfl⟩; cases r)
              all_goals go_ret
              all_goals exact ⟨rfl, Below.refl _ _⟩
            · clear hc
              go_enter Eehg.func9, Eehg.ntmps9
              go_wp2_with (go_at_call 28; refine hz.mono ?_; rintro e w' ⟨⟨r, rfl⟩, rfl⟩; cases r)
              all_goals go_ret
              all_goals exact ⟨rfl, Below.refl _ _⟩
          · clear hc
            go_enter Eehg.func9, Eehg.ntmps9
            go_wp2_with (go_at_call 28; refine hz.mono ?_; rintro e w' ⟨⟨r, rfl⟩, rfl⟩; cases r)
            all_goals go_ret
            all_goals exact ⟨rfl, Below.refl _ _⟩
        · clear hc
          go_enter Eehg.func9, Eehg.ntmps9
          go_wp2_with (go_at_call 28; refine hz.mono ?_; rintro e w' ⟨⟨r, rfl⟩, rfl⟩; cases r)
          all_goals go_ret
          all_goals exact ⟨rfl, Below.refl _ _⟩
      · clear hc
        go_enter Eehg.func9, Eehg.ntmps9
        go_wp2_with (go_at_call 28; refine hz.mono ?_; rintro e w' ⟨⟨r, rfl⟩, rfl⟩; cases r)
        all_goals go_ret
        all_goals exact ⟨rfl, Below.refl _ _⟩
    · clear hc
      go_enter Eehg.func9, Eehg.ntmps9
      go_wp2_with (go_at_call 28; refine hz.mono ?_; rintro e w' ⟨⟨r, rfl⟩, rfl⟩; cases r)
      all_goals go_ret
      all_goals exact ⟨rfl, Below.refl _ _⟩
  · clear hc
    go_enter Eehg.func9, Eehg.ntmps9
    go_wp2_with (go_at_call 28; refine hz.mono ?_; rintro e w' ⟨⟨r, rfl⟩, rfl⟩; cases r)
    all_goals go_ret
    all_goals exact ⟨rfl, Below.refl _ _⟩

end Go.Proofs.YoeehwDoor
