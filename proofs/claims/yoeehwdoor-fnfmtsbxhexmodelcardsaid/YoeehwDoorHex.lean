/-
  zzHexModel (31): the walk.
-/
import Derived.Test.YoeehwDoorSlices
import Derived.Test.YoeehwDoorHexPlain
namespace Go.Proofs.YoeehwDoor
open Go.RowKit

theorem at8_s (s : ByteArray) (i : Nat) (h : i < s.size) : at8 s.data.toList i = s[i] := by
  have h' : i < s.data.toList.length := by simpa using h
  simp only [at8, List.getD, List.getElem?_eq_getElem h', Option.getD_some]
  rfl

theorem hm_round (dg : ByteArray) (src : List UInt8) (sh sp : Bool) (i : Nat) (x : UInt8) (hi : i < src.length) (hx : x = src[i]) (h1 : ((x.toNat : Int) / 16).toNat < dg.size) (h2 : ((x.toNat : Int) % 16).toNat < dg.size) :
    hmTo dg.data.toList sh sp src (i + 1) = hmTo dg.data.toList sh sp src i ++ (if sp && decide (0 < i) then [32] else []) ++ (if sp && sh then pre dg.data.toList else []) ++ [dg[((x.toNat : Int) / 16).toNat]'h1, dg[((x.toNat : Int) % 16).toNat]'h2] := by
  have e0 : at8 src i = x := by simp [at8, List.getD, hi, hx]
  have e1 : ((x.toNat : Int) / 16).toNat = x.toNat / 16 := by omega
  have e2 : ((x.toNat : Int) % 16).toNat = x.toNat % 16 := by omega
  rw [hmTo, e0, tok, ← e1, ← e2, at8_s dg _ h1, at8_s dg _ h2]
  simp only [List.append_assoc]

set_option maxRecDepth 100000 in
set_option maxHeartbeats 1000000 in
theorem hex_any (w : World) (ao : Option Addr) (n cp l : Nat) (dg : ByteArray) (sh sp : Bool) (src : List UInt8) (hx : BytesAt w ao n src) (hl : l ≤ n) (hb : n ≤ 65536) (hd : 17 ≤ dg.size) :
    Calls Eehg.prog 31 #[.slice ao n cp, .int .i64 l, .string dg, .bool sh, .bool sp] w fun e w' => ∃ ao' n' c', e = .returned (.slice ao' n' c') ∧ w'.ownsRow w.heap.size 5 1 (.slice ao' n' c') n' (bytesV (hmTo dg.data.toList sh sp src l)) ∧ Below w.heap.size w w' := by
  obtain ⟨i5, hi, hz0, hz1, hz2⟩ := info_parts info5
  have Hx := hide hx.2
  have HN := hide hx.1
  clear hx
  obtain ⟨t1, ht1⟩ : ∃ t1 : Bool, t1 = (sh && !sp) := ⟨_, rfl⟩
  have HT1 := hide ht1
  clear ht1
  go_enter Eehg.func31, Eehg.ntmps31
  go_upto_region 2 with (at_make; refine wpList_make_own _ rfl _ _ 22 rfl w.heap.size 5 i5 (.int .u8 0) 1 Eehg.underlying22 hi hz0 hz1 _ _ _ (5 * l + 2) rfl rfl (by omega) (by rw [hz2]; omega) (by unfold maxLen; omega) (Nat.le_refl _) ?_; intro w1 hown1 hg1)
  have hb1 : Below w.heap.size w w1 := (Below.refl _ _).grown hg1 (Nat.le_refl _) (by intro j hj; cases hj)
  have hs1 := hb1.size
  clear hg1
  go_cut [22] from 18 to 22 (fun s22 wx => w1 = wx ∧ s22 = .bool t1)
  case first =>
    cases sh
    · go_wp2_with fail
      go_meet
      case rel => exact ⟨rfl, by rw [HT1.out]; rfl⟩
    · go_wp2_with fail
      go_meet
      case rel => exact ⟨rfl, by rw [HT1.out]; rfl⟩
  case rest =>
    obtain ⟨rfl, rfl⟩ := hcut
    go_upto_if 22 with fail
    go_cut [11] from 23 to 27 (fun s11 wx => ∃ ao' n' c', s11 = .slice ao' n' c' ∧ wx.ownsRow w.heap.size 5 1 (.slice ao' n' c') n' (bytesV (hmTo dg.data.toList sh sp src 0)) ∧ Below w.heap.size w wx)
    case first =>
      cases t1
      · go_wp2_with fail
        go_meet
        case rel =>
          refine ⟨_, _, _, rfl, ?_, hb1⟩
          rw [hmTo, ← HT1.out]
          exact hown1
      · go_wp2_with (at_builtin; refine wpList_app rfl (.tmp 23) (.tmp 26) 22 rfl Eehg.underlying22 w.heap.size _ _ [] (by rfl) (hown1.alloc _) _ 2 2 [48, dg[16]] (by rfl) rfl (news2 w1 48 dg[16] 5) (by decide) (by simp) (by simp; omega) ?_; intro g2 cap2 n2 w2 hown2 hbl2)
        go_wp2_with fail
        go_meet
        case rel =>
          refine ⟨_, _, _, rfl, ?_, (hb1.alloc hs1 _).trans hbl2⟩
          rw [hmTo, ← HT1.out, if_pos rfl, pre, at8_s dg 16 (by omega)]
          exact hown2
    case rest =>
      obtain ⟨a2, n2, c2, rfl, hown2, hb2⟩ := hcut
      clear hown1 hb1 hs1
      go_wp2_with fail
      go_loopg [11, 12] l (fun gk s11 s12 wr => ∃ i : Nat, i + gk = l ∧ s12 = .int .i64 i ∧ ∃ ao' n' c', s11 = .slice ao' n' c' ∧ wr.ownsRow w.heap.size 5 1 (.slice ao' n' c') n' (bytesV (hmTo dg.data.toList sh sp src i)) ∧ Below w.heap.size w wr)
      case atStart => exact ⟨0, by omega, rfl, _, _, _, rfl, hown2, hb2⟩
      case round =>
        obtain ⟨i, hil, rfl, a3, n3, c3, rfl, hown3, hb3⟩ := hrel
        clear hown2 hb2
        have hs3 := hb3.size
        have hlen := hmTo_le dg.data.toList sh sp src i
        by_cases hlt : i < l
        · obtain ⟨t2, ht2⟩ : ∃ t2 : Bool, t2 = (sp && decide (0 < i)) := ⟨_, rfl⟩
          have HT2 := hide ht2
          obtain ⟨t3, ht3⟩ : ∃ t3 : Bool, t3 = (sp && sh) := ⟨_, rfl⟩
          have HT3 := hide ht3
          clear ht2 ht3
          go_upto_region 7 with fail
          go_cut [37] from 28 to 37 (fun s37 wx => wr = wx ∧ s37 = .bool t2)
          case first =>
            cases sp
            · go_wp2_with fail
              go_meet
              case rel => exact ⟨rfl, by rw [HT2.out]; rfl⟩
            · go_wp2_with fail
              go_meet
              case rel => exact ⟨rfl, by rw [HT2.out]; simp⟩
          case rest =>
            obtain ⟨rfl, rfl⟩ := hcut
            go_upto_if 37 with fail
            go_cut [11] from 28 to 40 (fun s11 wx => ∃ ao' n' c', s11 = .slice ao' n' c' ∧ wx.ownsRow w.heap.size 5 1 (.slice ao' n' c') n' (bytesV (hmTo dg.data.toList sh sp src i ++ (if t2 then [32] else []))) ∧ Below w.heap.size w wx)
            case first =>
              cases t2
              · go_wp2_with fail
                go_meet
                case rel => exact ⟨_, _, _, rfl, by simpa using hown3, hb3⟩
              · go_wp2_with (at_builtin; refine wpList_app rfl (.tmp 38) (.tmp 39) 22 rfl Eehg.underlying22 w.heap.size _ _ _ (by rfl) (hown3.alloc _) _ 1 1 [32] (by rfl) rfl (news1 wr 32 5) (by decide) (by omega) (by simp; omega) ?_; intro g4 cap4 n4 w4 hown4 hbl4)
                go_wp2_with fail
                go_meet
                case rel => exact ⟨_, _, _, rfl, by simpa using hown4, (hb3.alloc hs3 _).trans hbl4⟩
            case rest =>
              obtain ⟨a4, n4, c4, rfl, hown4, hb4⟩ := hcut
              rename World => w4
              clear hown3 hb3 hs3
              have hs4 := hb4.size
              go_upto_region 9 with fail
              go_cut [44] from 28 to 44 (fun s44 wx => w4 = wx ∧ s44 = .bool t3)
              case first =>
                cases sp
                · go_wp2_with fail
                  go_meet
                  case rel => exact ⟨rfl, by rw [HT3.out]; rfl⟩
                · go_wp2_with fail
                  go_meet
                  case rel => exact ⟨rfl, by rw [HT3.out]; rfl⟩
              case rest =>
                obtain ⟨rfl, rfl⟩ := hcut
                have hl4 : (hmTo dg.data.toList sh sp src i ++ (if t2 then [32] else [])).length ≤ 5 * i + 3 := by cases t2 <;> simp <;> omega
                go_upto_if 44 with fail
                go_cut [11] from 28 to 49 (fun s11 wx => ∃ ao' n' c', s11 = .slice ao' n' c' ∧ wx.ownsRow w.heap.size 5 1 (.slice ao' n' c') n' (bytesV (hmTo dg.data.toList sh sp src i ++ (if t2 then [32] else []) ++ (if t3 then pre dg.data.toList else []))) ∧ Below w.heap.size w wx)
                case first =>
                  cases t3
                  · go_wp2_with fail
                    go_meet
                    case rel => exact ⟨_, _, _, rfl, by simpa using hown4, hb4⟩
                  · go_wp2_with (at_builtin; refine wpList_app rfl (.tmp 45) (.tmp 48) 22 rfl Eehg.underlying22 w.heap.size _ _ _ (by rfl) (hown4.alloc _) _ 2 2 [48, dg[16]] (by rfl) rfl (news2 w4 48 dg[16] 5) (by decide) (by omega) (by simp; omega) ?_; intro g5 cap5 n5 w5 hown5 hbl5)
                    go_wp2_with fail
                    go_meet
                    case rel =>
                      refine ⟨_, _, _, rfl, ?_, (hb4.alloc hs4 _).trans hbl5⟩
                      rw [if_pos trivial, pre, at8_s dg 16 (by omega)]
                      exact hown5
                case rest =>
                  obtain ⟨a5, n5, c5, rfl, hown5, hb5⟩ := hcut
                  rename World => w5
                  clear hown4 hb4 hs4
                  have hs5 := hb5.size
                  have hl5 : (hmTo dg.data.toList sh sp src i ++ (if t2 then [32] else []) ++ (if t3 then pre dg.data.toList else [])).length ≤ 5 * i + 5 := by
                    rw [List.length_append]
                    cases t3 <;> simp [pre] <;> simp at hl4 <;> omega
                  have hiN : i < src.length := by have := HN.out; omega
                  obtain ⟨g, o, ea, hc⟩ := Hx.out i hiN
                  cases ea
                  have hcr := (hb5.cell (World.block_lt_of_cell? w _ hc)).trans hc
                  obtain ⟨x, hxd⟩ : ∃ x : UInt8, x = src[i]'hiN := ⟨_, rfl⟩
                  have HX := hide hxd
                  rw [← hxd] at hcr
                  clear hxd hc
                  have hx256 : x.toNat < 256 := x.toNat_lt
                  have hq1 : (0 : Int) ≤ (x.toNat : Int) / 16 := by omega
                  have hq2 : (x.toNat : Int) / 16 < (dg.size : Int) := by omega
                  have hq3 : (0 : Int) ≤ (x.toNat : Int) % 16 := by omega
                  have hq4 : (x.toNat : Int) % 16 < (dg.size : Int) := by omega
                  have hn1 : ((x.toNat : Int) / 16).toNat < dg.size := by omega
                  have hn2 : ((x.toNat : Int) % 16).toNat < dg.size := by omega
                  have hwr1 : IntKind.u8.wrap ((x.toNat : Int) / 16) = (x.toNat : Int) / 16 := by rw [IntKind.wrap_u8]; omega
                  have hwr2 : (x.toNat : Int).tmod 16 = (x.toNat : Int) % 16 := Int.tmod_eq_emod_of_nonneg (by omega)
                  go_upto_region 12 with fail
                  go_region_law (refine step_app rfl (.tmp 54) (.tmp 63) 22 rfl Eehg.underlying22 w.heap.size _ _ _ (by rfl) (hown5.drew.alloc _) _ 2 2 [dg[((x.toNat : Int) / 16).toNat]'hn1, dg[((x.toNat : Int) % 16).toNat]'hn2] (by rfl) rfl (news2 w5.drew _ _ 5) (by decide) (by omega) (by simp; omega) ?_; intro g7 cap7 n7 w7 hown7 hbl7)
                  all_goals
                    go_wp2_with fail
                    go_roundg (gk - 1)
                    case measure => omega
                    case rel =>
                      refine ⟨i + 1, by omega, by go_num, _, _, _, rfl, ?_, ((hb5.drew).alloc hs5 _).trans hbl7⟩
                      rw [hm_round dg src sh sp i x hiN HX.out hn1 hn2, ← HT2.out, ← HT3.out]
                      exact hown7
        · obtain rfl : i = l := by omega
          go_wp2_with fail
          go_ret
          exact ⟨_, _, _, rfl, hown3, hb3⟩

end Go.Proofs.YoeehwDoor
