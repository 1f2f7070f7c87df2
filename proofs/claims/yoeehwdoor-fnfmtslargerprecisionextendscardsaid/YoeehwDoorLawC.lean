/-
  FnFmtSLargerPrecisionExtends (function 6): the walk; zzIsPrefix (16).
-/
import Derived.Test.YoeehwDoorText
import Derived.Laws.IdiomStrings
namespace Go.Proofs.YoeehwDoor
open Go.RowKit

theorem extract_take (s : ByteArray) (n : Nat) : (s.extract 0 n).data.toList = s.data.toList.take n := by
  cases s with
  | mk d => simp [ByteArray.extract, ByteArray.copySlice]

theorem bytes_take {w : World} {ao : Option Addr} {n : Nat} {xs : List UInt8} (h : BytesAt w ao n xs) (m : Nat) (hm : m ≤ n) : BytesAt w ao m (xs.take m) := by
  refine ⟨by rw [List.length_take]; have := h.1; omega, fun j hj => ?_⟩
  have hj' : j < xs.length := by rw [List.length_take] at hj; omega
  obtain ⟨g, o, e, hc⟩ := h.2 j hj'
  exact ⟨g, o, e, by rw [List.getElem_take]; exact hc⟩

theorem bytes_below {w w' : World} {ao : Option Addr} {n : Nat} {xs : List UInt8} (h : BytesAt w ao n xs) (hb : Below w.heap.size w w') : BytesAt w' ao n xs := by
  refine ⟨h.1, fun j hj => ?_⟩
  obtain ⟨g, o, e, hc⟩ := h.2 j hj
  exact ⟨g, o, e, (hb.cell (World.block_lt_of_cell? w _ hc)).trans hc⟩

set_option maxHeartbeats 400000 in
theorem prefix_any (w : World) (ao bo : Option Addr) (n m ca cb : Nat) (xs ys : List UInt8) (ha : BytesAt w ao n xs) (hb : BytesAt w bo m ys) (hbo : (bo = none ∧ m = 0 ∧ cb = 0) ∨ ∃ g o, bo = some ⟨g, o, none⟩) (hmc : m ≤ cb) (hnm : n ≤ m) (hx : xs = ys.take n) (hm : m ≤ 1000000) :
    Calls Eehg.prog 16 #[.slice ao n ca, .slice bo m cb] w fun e w' => e = .returned (.bool true) ∧ ∃ q, w' = w.drewN q := by
  have hl : xs.length ≤ 1000000000 := by have := ha.1; omega
  have hb2 : BytesAt w bo n xs := by rw [hx]; exact bytes_take hb n hnm
  rcases hbo with ⟨rfl, rfl, rfl⟩ | ⟨g, o, rfl⟩
  · obtain rfl : n = 0 := by omega
    have he := equal_same w ao none 0 0 ca 0 xs ha hb2 hl
    clear ha hb hb2 hx
    go_enter Eehg.func16, Eehg.ntmps16
    go_wp2_with (go_at_call 15; refine he.mono ?_; rintro e w' ⟨rfl, q, rfl⟩)
    go_ret
    exact ⟨rfl, q, rfl⟩
  · have he := equal_same w ao (some ⟨g, o, none⟩) n n ca cb xs ha hb2 hl
    clear ha hb hb2 hx
    go_enter Eehg.func16, Eehg.ntmps16
    go_wp2_with (go_at_call 15; refine he.mono ?_; rintro e w' ⟨rfl, q, rfl⟩)
    go_ret
    exact ⟨rfl, q, rfl⟩

set_option maxHeartbeats 400000 in
theorem zb24 (s : ByteArray) (p1 p2 : Int) (w : World) (hs : s.size ≤ maxLen) :
    Calls Eehg.prog 24 #[.string s, .int .i64 p1, .int .i64 p2] w fun e w' => (∃ r, e = .returned (.bool r)) ∧ w = w' := by
  unfold maxLen at hs
  go_enter Eehg.func24, Eehg.ntmps24
  go_wp2
  all_goals go_ret
  all_goals exact ⟨⟨_, rfl⟩, rfl⟩

set_option maxRecDepth 100000 in
set_option maxHeartbeats 400000 in
theorem lawC_early (s : ByteArray) (p1 p2 : Int) (w : World) (hs : s.size ≤ maxLen) (hc : ¬ (s.size ≤ 65536 ∧ -65536 ≤ p1 ∧ -65536 ≤ p2)) :
    Calls Eehg.prog 6 #[.string s, .int .i64 p1, .int .i64 p2] w fun e w' => e = .returned (.bool true) ∧ Below w.heap.size w w' := by
  have hz := zb24 s p1 p2 w hs
  unfold maxLen at hs
  by_cases c1 : s.size ≤ 65536
  · by_cases c2 : -65536 ≤ p1
    · have c3 : p2 < -65536 := by
        by_cases h : p2 < -65536
        · exact h
        · exact absurd ⟨c1, c2, by omega⟩ hc
      clear hc
      go_enter Eehg.func6, Eehg.ntmps6
      go_wp2_with (go_at_call 24; refine hz.mono ?_; rintro e w' ⟨⟨r, rfl⟩, rfl⟩; cases r)
      all_goals go_ret
      all_goals exact ⟨rfl, Below.refl _ _⟩
    · clear hc
      go_enter Eehg.func6, Eehg.ntmps6
      go_wp2_with (go_at_call 24; refine hz.mono ?_; rintro e w' ⟨⟨r, rfl⟩, rfl⟩; cases r)
      all_goals go_ret
      all_goals exact ⟨rfl, Below.refl _ _⟩
  · clear hc
    go_enter Eehg.func6, Eehg.ntmps6
    go_wp2_with (go_at_call 24; refine hz.mono ?_; rintro e w' ⟨⟨r, rfl⟩, rfl⟩; cases r)
    all_goals go_ret
    all_goals exact ⟨rfl, Below.refl _ _⟩

/-- The form of a slice that the call owns. -/
theorem own_form {w : World} {base n c : Nat} {ao : Option Addr} {xs : List Value} (h : w.ownsRow base 5 1 (.slice ao n c) n xs) : ((ao = none ∧ n = 0 ∧ c = 0) ∨ ∃ g o, ao = some ⟨g, o, none⟩) ∧ n ≤ c := by
  rcases h.2 with ⟨h', h0⟩ | ⟨g, cap, cur, h', _, _, hnc, _⟩
  · simp only [Value.slice.injEq] at h'
    exact ⟨.inl ⟨h'.1, h0, h'.2.2⟩, by omega⟩
  · simp only [Value.slice.injEq] at h'
    obtain ⟨rfl, _, rfl⟩ := h'
    exact ⟨.inr ⟨g, 0, rfl⟩, hnc⟩

/-- The bytes of '[]byte(s)'. -/
theorem conv_at (w : World) (s : ByteArray) (C : Nat) (fr : Nat × Nat) : BytesAt (w.alloc (.cells (bytesRow s C) 5 fr)) (some ⟨w.heap.size, 0, none⟩) s.size s.data.toList := by
  refine ⟨by rw [Array.length_toList]; rfl, fun j h => ⟨_, 0, rfl, ?_⟩⟩
  rw [Nat.zero_add, cell_of_row _ _ _ _ _ _ (heap_alloc_new w _)]
  have h' : j < s.size := by simpa using h
  simp [bytesRow, Array.getElem?_append, h']

theorem out_noWidth (s : ByteArray) (p : Int) (k : Nat) (c : UInt8) : around (trunc s p true).data.toList (padS 0 false k) c (!false) = s.data.toList.take (offTo s p.toNat) := by
  rw [trunc, if_pos rfl, extract_take, padS, around]
  simp

set_option maxRecDepth 100000 in
set_option maxHeartbeats 1000000 in
theorem lawC_main (s : ByteArray) (p1 p2 : Int) (w : World) (hw : 2 ≤ w.heap.size) (hmax : w.cell? ⟨0, 0, none⟩ = some (.int .i64 2147483647)) (c1 : s.size ≤ 65536) (c2 : -65536 ≤ p1) (c3 : -65536 ≤ p2) (d1 : p1 ≤ 9223372036854775807) (d2 : p2 ≤ 9223372036854775807) :
    Calls Eehg.prog 6 #[.string s, .int .i64 p1, .int .i64 p2] w fun e w' => e = .returned (.bool true) ∧ Below w.heap.size w w' := by
  have hz := zb24 s p1 p2 w (by unfold maxLen; omega)
  obtain ⟨P, Q, hPQ⟩ : ∃ P Q : Int, (P, Q) = if p2 < p1 then (p2, p1) else (p1, p2) := ⟨_, _, rfl⟩
  have hb : P ≤ Q ∧ -65536 ≤ P ∧ Q ≤ 9223372036854775807 := by
    split at hPQ <;> simp only [Prod.mk.injEq] at hPQ <;> omega
  have HPQ := hide hPQ
  clear hPQ
  obtain ⟨hPQ, hP1, hQ2⟩ := hb
  go_enter Eehg.func6, Eehg.ntmps6
  go_upto_if 27 with (go_at_call 24; refine hz.mono ?_; rintro e w' ⟨⟨r, rfl⟩, rfl⟩; cases r)
  · go_ret
    exact ⟨rfl, Below.refl _ _⟩
  · go_cut [1, 2] from 25 to 29 (fun s1 s2 wx => w = wx ∧ s1 = .int .i64 P ∧ s2 = .int .i64 Q)
    case first =>
      by_cases hlt : p2 < p1
      · have hE := HPQ.out
        rw [if_pos hlt] at hE
        simp only [Prod.mk.injEq] at hE
        have HE := hide hE
        clear hE
        go_wp2_with fail
        go_meet
        case rel => exact ⟨rfl, by rw [HE.out.1], by rw [HE.out.2]⟩
      · have hE := HPQ.out
        rw [if_neg hlt] at hE
        simp only [Prod.mk.injEq] at hE
        have HE := hide hE
        clear hE
        go_wp2_with fail
        go_meet
        case rel => exact ⟨rfl, by rw [HE.out.1], by rw [HE.out.2]⟩
    case rest =>
      obtain ⟨rfl, rfl, rfl⟩ := hcut
      obtain ⟨k1, hk1⟩ := exists_cnt (trunc s P true)
      obtain ⟨k2, hk2⟩ := exists_cnt (trunc s Q true)
      have HK1 := hide hk1
      have HK2 := hide hk2
      clear hk1 hk2 HPQ hz
      have hc32 : Hid ((32 : UInt8) = (if false = true then 48 else 32)) := rfl
      go_wp2_with fail
      refine (new_fb 0 P false true false false false false false _ hw hmax).mono ?_
      rintro e w1 ⟨rfl, hF1, -, hB1, hS1⟩
      have HS1 := hide hS1
      clear hS1
      go_wp2_with fail
      refine (zfmtS_any w1 _ _ _ ⟨0, P, false, true, false, false, false, false⟩ s k1 32 hc32 hF1 HK1.out c1 (by show (-65536 : Int) ≤ 0; omega) (by show (0 : Int) ≤ 65536; omega) (fun _ => hP1) (by show P ≤ _; omega)).mono ?_
      rintro e w2 ⟨rfl, hF2, hK2⟩
      have hB2 : Below w.heap.size w w2 := hB1.trans (hK2.below (Nat.le_refl _) (by omega))
      have hS2 := hB2.size
      go_wp2_with fail
      refine (new_fb 0 Q false true false false false false false _ (by omega) hF2.hmax).mono ?_
      rintro e w3 ⟨rfl, hF3, -, hB3, hS3⟩
      have HS3 := hide hS3
      clear hS3
      go_wp2_with fail
      refine (zfmtS_any w3 _ _ _ ⟨0, Q, false, true, false, false, false, false⟩ s k2 32 hc32 hF3 HK2.out c1 (by show (-65536 : Int) ≤ 0; omega) (by show (0 : Int) ≤ 65536; omega) (fun _ => by show (-65536 : Int) ≤ Q; omega) hQ2).mono ?_
      rintro e w4 ⟨rfl, hF4, hK4⟩
      have hB4 : Below w2.heap.size w2 w4 := hB3.trans (hK4.below (Nat.le_refl _) (by omega))
      have hF2' := hF2.below hB4
      have hS4 := hB4.size
      go_wp2_with fail
      refine (buf_any w4 _ _ _ _ _ hF2').mono ?_
      rintro e w' ⟨⟨a5, n5, c5, rfl, hown5⟩, rfl⟩
      go_wp2_with fail
      refine (buf_any w' _ _ _ _ _ hF4).mono ?_
      rintro e w'' ⟨⟨a6, n6, c6, rfl, hown6⟩, rfl⟩
      have e5 : Hid (around (trunc s P true).data.toList (padS 0 false k1) 32 (!false) = s.data.toList.take (offTo s P.toNat)) := hide (out_noWidth s P k1 32)
      have e6 : Hid (around (trunc s Q true).data.toList (padS 0 false k2) 32 (!false) = s.data.toList.take (offTo s Q.toNat)) := hide (out_noWidth s Q k2 32)
      have hy5 : BytesAt w'' a5 n5 (s.data.toList.take (offTo s P.toNat)) := by rw [← e5.out]; exact BytesAt.of_own hown5
      have hy6 : BytesAt w'' a6 n6 (s.data.toList.take (offTo s Q.toNat)) := by rw [← e6.out]; exact BytesAt.of_own hown6
      have hf6 := own_form hown6
      have hmono : offTo s P.toNat ≤ offTo s Q.toNat := by
        have := offTo_mono s P.toNat (Q.toNat - P.toNat)
        rwa [show P.toNat + (Q.toNat - P.toNat) = Q.toNat by omega] at this
      have hQs := offTo_le s Q.toNat
      have hsl : s.data.toList.length = s.size := Array.length_toList
      have hn5 : n5 = offTo s P.toNat := by rw [hy5.1, List.length_take]; omega
      have hn6 : n6 = offTo s Q.toNat := by rw [hy6.1, List.length_take]; omega
      have hpre1 := prefix_any w'' a5 a6 n5 n6 c5 c6 _ _ hy5 hy6 hf6.1 hf6.2 (by omega) (by rw [List.take_take, hn5, Nat.min_eq_left hmono]) (by omega)
      have HN6 := hide hn6
      have HY6 := hide hy6
      have HSL := hide hsl
      have hB5 := hB2.trans (hB4.mono hS2)
      clear hn5 hn6 hsl hy5 hy6 hf6 hown5 hown6 hF1 hF2 hF3 hF4 hF2' hK2 hK4 hB1 hB2 hB3 hB4
      have hcv := fun w s => run_bytes_of_string (P := Eehg.prog) w 9 22 5 s Eehg.underlying9 Eehg.underlying22 Eehg.underlying5
      go_wp2_with fail
      refine hpre1.mono ?_
      rintro e w6 ⟨rfl, q, rfl⟩
      clear hpre1
      go_wp2_with fail
      have hge := grownCap_ge (w''.drewN q) s.size 0 5
      generalize grownCap (w''.drewN q) s.size 0 5 = C at *
      have hB6 : Below w''.heap.size w'' ((w''.drewN (q + 1)).alloc (.cells (bytesRow s C) 5 ((bytesRow s C).size, (bytesRow s C).size + 1))) :=
        Below.alloc (show Below w''.heap.size w'' (w''.drewN (q + 1)) from ⟨rfl, rfl, rfl, Nat.le_refl _, fun _ _ => rfl⟩) (Nat.le_refl _) _
      refine (prefix_any _ a6 (some ⟨w''.heap.size, 0, none⟩) n6 s.size c6 C _ _ (bytes_below HY6.out hB6) (conv_at (w''.drewN (q + 1)) s C _) (.inr ⟨_, _, rfl⟩) hge (by have := HN6.out; omega) (by rw [HN6.out]) (by omega)).mono ?_
      rintro e w8 ⟨rfl, q2, rfl⟩
      go_wp2_with fail
      go_ret
      exact ⟨rfl, (hB5.trans (hB6.mono (Nat.le_trans hS2 hS4))).trans ⟨rfl, rfl, rfl, Nat.le_refl _, fun _ _ => rfl⟩⟩

/-- THE LAW: whatever the input. -/
theorem lawC (s : ByteArray) (p1 p2 : Int) (w : World) (hw : 2 ≤ w.heap.size) (hmax : w.cell? ⟨0, 0, none⟩ = some (.int .i64 2147483647)) (hs : s.size ≤ maxLen) (d1 : p1 ≤ 9223372036854775807) (d2 : p2 ≤ 9223372036854775807) :
    Calls Eehg.prog 6 #[.string s, .int .i64 p1, .int .i64 p2] w fun e w' => e = .returned (.bool true) ∧ Below w.heap.size w w' := by
  by_cases hc : s.size ≤ 65536 ∧ -65536 ≤ p1 ∧ -65536 ≤ p2
  · exact lawC_main s p1 p2 w hw hmax hc.1 hc.2.1 hc.2.2 d1 d2
  · exact lawC_early s p1 p2 w hs hc

end Go.Proofs.YoeehwDoor
