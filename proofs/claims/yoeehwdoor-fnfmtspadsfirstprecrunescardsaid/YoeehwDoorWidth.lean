/-
  zzWidth (36): it gives the decoder's width.
-/
import Derived.Test.YoeehwDoorEq
import Derived.Test.YoeehwDoorRunes
import Derived.Deep.LoopGhost
namespace Go.Proofs.YoeehwDoor
open Go.RowKit

theorem by8_at (s : ByteArray) (j : Nat) (h : j < s.data.toList.length) : (s.data.toList[j]'h).toNat = by8 s j := by
  have h' : j < s.size := by simpa using h
  have e : s.get! j = s.data.toList[j]'h := by
    simp [ByteArray.get!, getElem!_pos, h']
  rw [by8, e]

/-- The cells of a string's bytes. -/
theorem by8_cell {w : World} {ao : Option Addr} {n : Nat} {s : ByteArray} (h : BytesAt w ao n s.data.toList) (j : Nat) (hj : j < s.size) : ∃ g o, ao = some ⟨g, o, none⟩ ∧ w.cell? ⟨g, o + j, none⟩ = some (.int .u8 (by8 s j : Int)) := by
  have hj' : j < s.data.toList.length := by simpa using hj
  obtain ⟨g, o, e, hc⟩ := h.2 j hj'
  rw [by8_at] at hc
  exact ⟨g, o, e, hc⟩

set_option maxRecDepth 100000 in
set_option maxHeartbeats 1000000 in
theorem width_ascii (w : World) (g o n c i b0 : Nat) (hin : i < n) (hc : w.cell? ⟨g, o + i, none⟩ = some (.int .u8 (b0 : Int))) (h0 : b0 < 128 ∨ (128 ≤ b0 ∧ b0 < 194) ∨ (244 < b0 ∧ b0 < 256)) :
    Calls Eehg.prog 36 #[.slice (some ⟨g, o, none⟩) n c, .int .i64 i] w fun e w' => e = .returned (.int .i64 1) ∧ w = w' := by
  rcases h0 with h0 | h0 | h0
  · go_enter Eehg.func36, Eehg.ntmps36
    go_wp2_with fail
    go_ret
    exact ⟨rfl, rfl⟩
  · obtain ⟨h1, h2⟩ := h0
    have e2 : ((b0 : Int) == 238) = false := by simp; omega
    have e3 : ((b0 : Int) == 239) = false := by simp; omega
    go_enter Eehg.func36, Eehg.ntmps36
    go_wp2_with fail
    go_ret
    exact ⟨rfl, rfl⟩
  · obtain ⟨h1, h2⟩ := h0
    have e2 : ((b0 : Int) == 238) = false := by simp; omega
    have e3 : ((b0 : Int) == 239) = false := by simp; omega
    go_enter Eehg.func36, Eehg.ntmps36
    go_wp2_with fail
    go_ret
    exact ⟨rfl, rfl⟩

theorem lo_mid {b : Nat} (_ : 194 ≤ b) (h1 : b ≠ 224) (h2 : b ≠ 240) : loOf b = 128 := by unfold loOf; rw [if_neg h1, if_neg h2]
theorem hi_mid {b : Nat} (_ : 194 ≤ b) (h1 : b ≠ 237) (h2 : b ≠ 244) : hiOf b = 191 := by unfold hiOf; rw [if_neg h1, if_neg h2]

theorem width_cut {s : ByteArray} {i N j : Nat} (h : wd s i = if 3 ≤ N ∧ (by8 s (i + 2) < 128 ∨ 191 < by8 s (i + 2)) then 1 else if 4 ≤ N ∧ (by8 s (i + 3) < 128 ∨ 191 < by8 s (i + 3)) then 1 else N)
    (_ : ∀ m, 2 ≤ m → m < j → ¬ (by8 s (i + m) < 128 ∨ 191 < by8 s (i + m))) (h2 : 2 ≤ j) (hj : j < N) (hN : N ≤ 4) (hb : by8 s (i + j) < 128 ∨ 191 < by8 s (i + j)) : wd s i = 1 := by
  rw [h]
  rcases (show j = 2 ∨ j = 3 from by omega) with rfl | rfl
  · rw [if_pos ⟨by omega, hb⟩]
  · split
    · rfl
    · rw [if_pos ⟨by omega, hb⟩]

theorem width_full {s : ByteArray} {i N : Nat} (h : wd s i = if 3 ≤ N ∧ (by8 s (i + 2) < 128 ∨ 191 < by8 s (i + 2)) then 1 else if 4 ≤ N ∧ (by8 s (i + 3) < 128 ∨ 191 < by8 s (i + 3)) then 1 else N)
    (hall : ∀ m, 2 ≤ m → m < N → ¬ (by8 s (i + m) < 128 ∨ 191 < by8 s (i + m))) : wd s i = N := by
  rw [h, if_neg (fun hh => hall 2 (by omega) (by omega) hh.2), if_neg (fun hh => hall 3 (by omega) (by omega) hh.2)]

set_option maxRecDepth 100000 in
set_option maxHeartbeats 1000000 in
theorem width_multi (w : World) (g o n c i b0 : Nat) (s : ByteArray) (hsn : n = s.size) (hin : i < n) (hn : n ≤ 1000000) (hb : Hid (b0 = by8 s i)) (hcells : Hid (∀ j, j < n → w.cell? ⟨g, o + j, none⟩ = some (.int .u8 (by8 s j : Int)))) (hc : w.cell? ⟨g, o + i, none⟩ = some (.int .u8 (b0 : Int)))
    (h0 : 194 ≤ b0) (h1 : b0 ≤ 244) :
    Calls Eehg.prog 36 #[.slice (some ⟨g, o, none⟩) n c, .int .i64 i] w fun e w' => e = .returned (.int .i64 (wd s i : Int)) ∧ w = w' := by
  have HW : Hid (wd s i = zw b0 (by8 s (i + 1)) (by8 s (i + 2)) (by8 s (i + 3)) (n - i)) := by show _ = _; rw [wd_zw, ← hb.out, ← hsn]
  have HSN := hide hsn
  clear hsn
  obtain ⟨N, hN⟩ : ∃ N, N = nOf b0 := ⟨_, rfl⟩
  obtain ⟨lo, hlo⟩ : ∃ lo, lo = loOf b0 := ⟨_, rfl⟩
  obtain ⟨hi, hhi⟩ : ∃ hi, hi = hiOf b0 := ⟨_, rfl⟩
  have hNb : 2 ≤ N ∧ N ≤ 4 := by rw [hN]; unfold nOf; repeat' split
                                 all_goals omega
  have hlob : 128 ≤ lo ∧ lo ≤ 160 := by rw [hlo]; unfold loOf; repeat' split
                                        all_goals omega
  have hhib : 143 ≤ hi ∧ hi ≤ 191 := by rw [hhi]; unfold hiOf; repeat' split
                                        all_goals omega
  have HN := hide hN
  have HLO := hide hlo
  have HHI := hide hhi
  clear hN hlo hhi
  obtain ⟨hN1, hN2⟩ := hNb
  obtain ⟨hlo1, hlo2⟩ := hlob
  obtain ⟨hhi1, hhi2⟩ := hhib
  go_enter Eehg.func36, Eehg.ntmps36
  go_upto_if 21 with fail
  go_cut [6, 7, 8] from 10 to 47 (fun s6 s7 s8 wx => w = wx ∧ s6 = .int .i64 (N : Int) ∧ s7 = .int .u8 (lo : Int) ∧ s8 = .int .u8 (hi : Int))
  case first =>
    rcases (show (194 ≤ b0 ∧ b0 ≤ 223) ∨ b0 = 224 ∨ (225 ≤ b0 ∧ b0 ≤ 236) ∨ b0 = 237 ∨ b0 = 238 ∨ b0 = 239 ∨ b0 = 240 ∨ (241 ≤ b0 ∧ b0 ≤ 243) ∨ b0 = 244 from by omega) with h | h | h | h | h | h | h | h | h
    · go_wp2_with fail
      go_meet
      case rel => exact ⟨rfl, by rw [HN.out, nOf2 h.1 h.2]; rfl, by rw [HLO.out, lo_mid h0 (by omega) (by omega)]; rfl, by rw [HHI.out, hi_mid h0 (by omega) (by omega)]; rfl⟩
    · subst h
      go_wp2_with fail
      go_meet
      case rel => exact ⟨rfl, by rw [HN.out]; rfl, by rw [HLO.out]; rfl, by rw [HHI.out]; rfl⟩
    · go_wp2_with fail
      go_meet
      case rel => exact ⟨rfl, by rw [HN.out, nOf3 (by omega) (by omega)]; rfl, by rw [HLO.out, lo_mid h0 (by omega) (by omega)]; rfl, by rw [HHI.out, hi_mid h0 (by omega) (by omega)]; rfl⟩
    · subst h
      go_wp2_with fail
      go_meet
      case rel => exact ⟨rfl, by rw [HN.out]; rfl, by rw [HLO.out]; rfl, by rw [HHI.out]; rfl⟩
    · subst h
      go_wp2_with fail
      go_meet
      case rel => exact ⟨rfl, by rw [HN.out]; rfl, by rw [HLO.out]; rfl, by rw [HHI.out]; rfl⟩
    · subst h
      go_wp2_with fail
      go_meet
      case rel => exact ⟨rfl, by rw [HN.out]; rfl, by rw [HLO.out]; rfl, by rw [HHI.out]; rfl⟩
    · subst h
      go_wp2_with fail
      go_meet
      case rel => exact ⟨rfl, by rw [HN.out]; rfl, by rw [HLO.out]; rfl, by rw [HHI.out]; rfl⟩
    · have e2 : ((b0 : Int) == 238) = false := by simp; omega
      have e3 : ((b0 : Int) == 239) = false := by simp; omega
      go_wp2_with fail
      go_meet
      case rel => exact ⟨rfl, by rw [HN.out, nOf4 (by omega) (by omega)]; rfl, by rw [HLO.out, lo_mid h0 (by omega) (by omega)]; rfl, by rw [HHI.out, hi_mid h0 (by omega) (by omega)]; rfl⟩
    · subst h
      go_wp2_with fail
      go_meet
      case rel => exact ⟨rfl, by rw [HN.out]; rfl, by rw [HLO.out]; rfl, by rw [HHI.out]; rfl⟩
  case rest =>
    obtain ⟨rfl, rfl, rfl, rfl⟩ := hcut
    by_cases hr : n - i < N
    · have he : Hid (wd s i = 1) := by show _ = _; rw [HW.out, zw, ← HN.out, if_neg (by omega), if_neg (by omega), if_pos hr]
      go_wp2_with fail
      go_ret
      exact ⟨by rw [he.out]; rfl, rfl⟩
    · obtain ⟨b1, hb1⟩ : ∃ b1, b1 = by8 s (i + 1) := ⟨_, rfl⟩
      have hc1 := hcells.out (i + 1) (by omega)
      rw [← hb1] at hc1
      have HB1 := hide hb1
      have hb1l : b1 < 256 := by rw [hb1]; exact by8_lt _ _
      clear hb1
      by_cases h2 : b1 < lo
      · have he : Hid (wd s i = 1) := by show _ = _; rw [HW.out, zw, ← HN.out, ← HLO.out, ← HHI.out, ← HB1.out, if_neg (by omega), if_neg (by omega), if_neg hr, if_pos (.inl h2)]
        go_wp2_with fail
        go_ret
        exact ⟨by rw [he.out]; rfl, rfl⟩
      · by_cases h3 : hi < b1
        · have he : Hid (wd s i = 1) := by show _ = _; rw [HW.out, zw, ← HN.out, ← HLO.out, ← HHI.out, ← HB1.out, if_neg (by omega), if_neg (by omega), if_neg hr, if_pos (.inr h3)]
          go_wp2_with fail
          go_ret
          exact ⟨by rw [he.out]; rfl, rfl⟩
        · have HZ : Hid (wd s i = if 3 ≤ N ∧ (by8 s (i + 2) < 128 ∨ 191 < by8 s (i + 2)) then 1 else if 4 ≤ N ∧ (by8 s (i + 3) < 128 ∨ 191 < by8 s (i + 3)) then 1 else N) := by
            show _ = _
            rw [HW.out, zw, ← HN.out, ← HLO.out, ← HHI.out, ← HB1.out, if_neg (show ¬ b0 < 128 by omega), if_neg (show ¬ N = 0 by omega), if_neg hr, if_neg (show ¬ (b1 < lo ∨ hi < b1) by omega)]
          go_wp2_with fail
          go_loopg [9] (N - 2) (fun gk v wr => ∃ j : Nat, 2 ≤ j ∧ j + gk = N ∧ v = .int .i64 j ∧ w = wr ∧ Hid (∀ m, 2 ≤ m → m < j → ¬ (by8 s (i + m) < 128 ∨ 191 < by8 s (i + m))))
          case atStart => exact ⟨2, by omega, by omega, rfl, rfl, fun m h1 h2 => by omega⟩
          case round =>
            obtain ⟨j, hj2, hjN, rfl, rfl, hall⟩ := hrel
            by_cases hlt : j < N
            · obtain ⟨bj, hbj⟩ : ∃ bj, bj = by8 s (i + j) := ⟨_, rfl⟩
              have hcj := hcells.out (i + j) (by omega)
              rw [← hbj] at hcj
              have HBJ := hide hbj
              clear hbj
              by_cases h4 : bj < 128
              · have he : Hid (wd s i = 1) := hide (width_cut HZ.out hall.out hj2 hlt hN2 (.inl (by rw [← HBJ.out]; exact h4)))
                go_wp2_with fail
                go_ret
                exact ⟨by rw [he.out]; rfl, rfl⟩
              · by_cases h5 : 191 < bj
                · have he : Hid (wd s i = 1) := hide (width_cut HZ.out hall.out hj2 hlt hN2 (.inr (by rw [← HBJ.out]; exact h5)))
                  go_wp2_with fail
                  go_ret
                  exact ⟨by rw [he.out]; rfl, rfl⟩
                · go_wp2_with fail
                  go_roundg (gk - 1)
                  case measure => omega
                  case rel =>
                    refine ⟨j + 1, by omega, by omega, by go_num, rfl, fun m h6 h7 => ?_⟩
                    rcases Nat.lt_or_ge m j with h8 | h8
                    · exact hall.out m h6 h8
                    · obtain rfl : m = j := by omega
                      rw [← HBJ.out]
                      omega
            · obtain rfl : j = N := by omega
              have he : Hid (wd s i = j) := hide (width_full HZ.out hall.out)
              go_wp2_with fail
              go_ret
              exact ⟨by rw [he.out]; rfl, rfl⟩

/-- zzWidth. -/
theorem width_any (w : World) (ao : Option Addr) (n c i : Nat) (s : ByteArray) (hx : BytesAt w ao n s.data.toList) (hin : i < n) (hn : n ≤ 1000000) :
    Calls Eehg.prog 36 #[.slice ao n c, .int .i64 i] w fun e w' => e = .returned (.int .i64 (wd s i : Int)) ∧ w = w' := by
  have hns : n = s.size := by rw [hx.1, Array.length_toList]; rfl
  obtain ⟨g, o, rfl, hc⟩ := by8_cell hx i (by omega)
  have hcells : ∀ j, j < n → w.cell? ⟨g, o + j, none⟩ = some (.int .u8 (by8 s j : Int)) := by
    intro j hj
    obtain ⟨g', o', e, hc'⟩ := by8_cell hx j (by omega)
    cases e
    exact hc'
  have hb := by8_lt s i
  by_cases h1 : 194 ≤ by8 s i ∧ by8 s i ≤ 244
  · exact width_multi w g o n c i (by8 s i) s hns hin hn rfl hcells hc h1.1 h1.2
  · have he : wd s i = 1 := by
      rw [wd_zw, zw]
      by_cases h2 : by8 s i < 128
      · rw [if_pos h2]
      · rw [if_neg h2, nOf0 (by omega), if_pos rfl]
    rw [he]
    exact width_ascii w g o n c i (by8 s i) hin hc (by omega)

end Go.Proofs.YoeehwDoor
