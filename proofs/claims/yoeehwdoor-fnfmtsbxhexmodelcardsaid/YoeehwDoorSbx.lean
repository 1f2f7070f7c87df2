/-
  fmtSbx (function 41) and ZZfmtSbx (32): what they write is 'sbxOut' of the source bytes, the digits and the settings.
-/
import Derived.Test.YoeehwDoorApp
import Derived.Test.YoeehwDoorPlain
import Derived.BigQuiet
import Derived.Deep.LoopGhost
import Derived.Deep.AppendLies
import Derived.Deep.RegionLaw
namespace Go.Proofs.YoeehwDoor
open Go.RowKit

/-- Where fmtSbx takes its bytes from: the string, if the slice is nil; else the slice. -/
def SrcAt (w : World) (base Bf : Nat) (s : ByteArray) (ao : Option Addr) (nb cb : Nat) (src : List UInt8) : Prop :=
  (ao = none ∧ nb = 0 ∧ cb = 0 ∧ src = s.data.toList) ∨ (∃ g o : Nat, ao = some ⟨g, o, none⟩ ∧ nb = src.length ∧ g < base ∧ g ≠ Bf ∧ ∀ j, (h : j < src.length) → w.cell? ⟨g, o + j, none⟩ = some (.int .u8 ((src[j]'h).toNat : Int)))

theorem lenOf_bd (n : Nat) (prec : Int) (pp : Bool) (hp : pp = true → -65536 ≤ prec) : -65536 ≤ lenOf n prec pp ∧ lenOf n prec pp ≤ n := by
  unfold lenOf
  cases pp
  · simp
  · have := hp rfl
    by_cases h : prec < (n : Int) <;> simp [h] <;> omega

theorem gap_le (dg : List UInt8) (sh sp : Bool) (i : Nat) : (gap dg sh sp i).length ≤ 3 := by
  rw [gap_len]
  split
  · split <;> omega
  · omega

theorem at8_str (s : ByteArray) (i : Nat) (h : i < s.size) : at8 s.data.toList i = s[i] := by
  have h' : i < s.data.toList.length := by simpa using h
  simp only [at8, List.getD, List.getElem?_eq_getElem h', Option.getD_some]
  rfl

theorem sbx_round (P1 : List UInt8) (dg : ByteArray) (src : List UInt8) (sh sp : Bool) (i : Nat) (x : UInt8) (hi : i < src.length) (hx : x = src[i]) (h1 : ((x.toNat : Int) / 16).toNat < dg.size) (h2 : ((x.toNat : Int) % 16).toNat < dg.size) :
    P1 ++ sbxTo dg.data.toList sh sp src (i + 1) = P1 ++ (sbxTo dg.data.toList sh sp src i ++ gap dg.data.toList sh sp i) ++ [dg[((x.toNat : Int) / 16).toNat]'h1, dg[((x.toNat : Int) % 16).toNat]'h2] := by
  have e0 : at8 src i = x := by simp [at8, List.getD, hi, hx]
  have e1 : ((x.toNat : Int) / 16).toNat = x.toNat / 16 := by omega
  have e2 : ((x.toNat : Int) % 16).toNat = x.toNat % 16 := by omega
  rw [sbxTo, e0, tok, ← e1, ← e2, at8_str dg _ h1, at8_str dg _ h2]
  simp only [List.append_assoc]

/-- The parts put together. -/
theorem sbx_fin (src dg : List UInt8) (wid prec : Int) (wp pp mi sh sp : Bool) (c : UInt8) (l W : Nat) (t1 t3 : Bool) (P1 : List UInt8) (hl : (l : Int) = lenOf src.length prec pp) (hp : 0 < l) (hW : W = wide sh sp l)
    (h1 : t1 = (wp && decide ((W : Int) < wid) && !mi)) (h3 : t3 = (wp && decide ((W : Int) < wid) && mi)) (hP : P1 = if t1 then List.replicate (wid - W).toNat c else []) :
    sbxOut src dg wid prec wp pp mi sh sp c = (P1 ++ sbxTo dg sh sp src l) ++ (if t3 then List.replicate (wid - W).toNat c else []) := by
  unfold sbxOut
  rw [← hl, if_neg (by omega), Int.toNat_natCast]
  dsimp only
  rw [← hW]
  subst hP h1 h3
  unfold padN
  cases wp <;> cases mi <;> by_cases h : (W : Int) < wid <;> simp [h]
  all_goals omega

theorem slice_shape {w : World} {base n : Nat} {v : Value} {xs : List Value} (h : w.ownsRow base 5 1 v n xs) : ∃ ao c, v = .slice ao n c := by
  rcases h.2 with ⟨rfl, rfl⟩ | ⟨g, cap, cur, rfl, _⟩ <;> exact ⟨_, _, rfl⟩

set_option maxRecDepth 100000 in
set_option maxHeartbeats 4000000 in
theorem sbx_any (w : World) (base Bf F : Nat) (f : Fl) (s dg : ByteArray) (ao : Option Addr) (nb cb : Nat) (src : List UInt8) (c : UInt8) (HC : Hid (c = (if f.ze then 48 else 32))) (h : FB w base Bf F f [])
    (hs : SrcAt w base Bf s ao nb cb src) (hl : src.length ≤ 65536) (hw1 : -65536 ≤ f.wid) (hw2 : f.wid ≤ 65536) (hp : f.pp = true → -65536 ≤ f.prec) (hd : 17 ≤ dg.size) :
    Calls Eehg.prog 41 #[.pointer (some ⟨F, 0, none⟩), .string s, .slice ao nb cb, .string dg] w fun e w' => e = .returned (.tuple #[]) ∧ FB w' base Bf F f (sbxOut src dg.data.toList f.wid f.prec f.wp f.pp f.mi f.sh f.sp c) ∧ Keep base Bf w w' := by
  obtain ⟨i5, hi, hz0, hz1, hz2⟩ := info_parts info5
  obtain ⟨k0, k1, k2, k3, k5, k6, k7, k13, k14⟩ := h.cell
  have Hs : Hid (SrcAt w base Bf s ao nb cb src) := hs
  obtain ⟨N, hN⟩ : ∃ N, N = src.length := ⟨_, rfl⟩
  have HN : Hid (N = src.length) := hN
  obtain ⟨L, hL⟩ : ∃ L, L = lenOf N f.prec f.pp := ⟨_, rfl⟩
  have hLb := lenOf_bd src.length f.prec f.pp hp
  rw [← hN, ← hL] at hLb
  rw [← hN] at hl
  have HL : Hid (L = lenOf N f.prec f.pp) := hL
  obtain ⟨tt, htt⟩ : ∃ tt : Bool, tt = (f.pp && decide (f.prec < (N : Int))) := ⟨_, rfl⟩
  have HT : Hid (tt = (f.pp && decide (f.prec < (N : Int)))) := htt
  have Hp : Hid (f.pp = true → -65536 ≤ f.prec) := hp
  clear hs hN hL htt hp
  obtain ⟨hL1, hL2⟩ := hLb
  have q22 : ∀ (w : World) (a : Option Addr) (n c : Nat), (binOp .eql 22 (.slice a n c) (.slice none 0 0)).run Eehg.prog w = .ok (.bool a.isNone) w := fun w a n c => Lib.run_eql_slice_nil w _ _ a n c 0 0 Eehg.underlying22
  go_enter Eehg.func41, Eehg.ntmps41
  go_upto_if 16 with fail
  go_cut [8] from 13 to 18 (fun s8 wx => w = wx ∧ s8 = .int .i64 N)
  case first =>
    rcases Hs.out with ⟨rfl, rfl, rfl, hsrc⟩ | ⟨g, o, rfl, rfl, -, -, -⟩
    · go_wp2_with fail
      go_meet
      case rel => exact ⟨rfl, by rw [HN.out, hsrc]; rfl⟩
    · go_wp2_with fail
      go_meet
      case rel => exact ⟨rfl, by rw [HN.out]⟩
  case rest =>
    obtain ⟨rfl, rfl⟩ := hcut
    go_upto_region 3 with fail
    go_cut [31] from 19 to 31 (fun s31 wx => w = wx ∧ s31 = .bool tt)
    case first =>
      cases hpp : f.pp
      · rw [hpp] at k2
        go_wp2_with fail
        go_meet
        case rel => exact ⟨rfl, by rw [HT.out, hpp]; rfl⟩
      · rw [hpp] at k2
        go_wp2_with fail
        go_meet
        case rel => exact ⟨rfl, by rw [HT.out, hpp]; rfl⟩
    case rest =>
      obtain ⟨rfl, rfl⟩ := hcut
      go_upto_if 31 with fail
      go_cut [8] from 19 to 35 (fun s8 wx => w = wx ∧ s8 = .int .i64 L)
      case first =>
        cases tt
        · go_wp2_with fail
          go_meet
          case rel => exact ⟨rfl, by rw [HL.out]; unfold lenOf; rw [← HT.out]; rfl⟩
        · go_wp2_with fail
          go_meet
          case rel => exact ⟨rfl, by rw [HL.out]; unfold lenOf; rw [← HT.out]; rfl⟩
      case rest =>
        obtain ⟨rfl, rfl⟩ := hcut
        by_cases hpos : L ≤ 0
        · have hout : Hid (sbxOut src dg.data.toList f.wid f.prec f.wp f.pp f.mi f.sh f.sp c = List.replicate (padN f.wid f.wp 0) c) := by
            show _ = _
            unfold sbxOut
            rw [← HN.out, ← HL.out, if_pos hpos]
          cases hwp : f.wp
          · rw [hwp] at k1
            go_wp2_with fail
            go_returns
            refine ⟨rfl, ?_, Keep.refl _ _ _⟩
            rw [hout.out, hwp]
            exact h
          · rw [hwp] at k1
            go_wp2_with (go_at_call 47; refine (pad_any _ base Bf F f [] f.wid c HC h (by simp; omega)).mono ?_; rintro e w' ⟨rfl, hfb, hkp⟩)
            go_returns
            refine ⟨rfl, ?_, hkp⟩
            rw [hout.out, hwp]
            simpa [padN] using hfb
        · obtain ⟨l, rfl⟩ := Int.eq_ofNat_of_zero_le (show 0 ≤ L by omega)
          obtain ⟨W, hW⟩ : ∃ W, W = wide f.sh f.sp l := ⟨_, rfl⟩
          have hWb := wide_le f.sh f.sp l
          rw [← hW] at hWb
          have HW : Hid (W = wide f.sh f.sp l) := hW
          clear hW
          go_upto_if 39 with fail
          go_cut [9] from 36 to 62 (fun s9 wx => w = wx ∧ s9 = .int .i64 W)
          case first =>
            cases hsp : f.sp <;> cases hsh : f.sh
            all_goals
              rw [hsp] at k6
              rw [hsh] at k5
              have hWe : W = wide f.sh f.sp l := HW.out
              simp only [hsp, hsh, wide, if_true, if_false, Bool.false_eq_true] at hWe
              have HWe := hide hWe
              clear hWe
              go_wp2_with fail
              go_meet
              case rel => have hWe := HWe.out; exact ⟨rfl, by go_num⟩
          case rest =>
            obtain ⟨rfl, rfl⟩ := hcut
            obtain ⟨t1, ht1⟩ : ∃ t1 : Bool, t1 = (f.wp && decide ((W : Int) < f.wid) && !f.mi) := ⟨_, rfl⟩
            have HT1 : Hid (t1 = (f.wp && decide ((W : Int) < f.wid) && !f.mi)) := ht1
            clear ht1
            go_upto_region 15 with fail
            go_cut [94] from 63 to 94 (fun s94 wx => w = wx ∧ s94 = .bool t1)
            case first =>
              cases hwp : f.wp
              · rw [hwp] at k1
                go_wp2_with fail
                go_meet
                case rel => exact ⟨rfl, by rw [HT1.out, hwp]; rfl⟩
              · rw [hwp] at k1
                by_cases hlt : (W : Int) < f.wid
                · have hdc : decide ((W : Int) < f.wid) = true := by simpa using hlt
                  go_wp2_with fail
                  go_meet
                  case rel => exact ⟨rfl, by rw [HT1.out, hwp, hdc]; rfl⟩
                · have hdc : decide ((W : Int) < f.wid) = false := by simpa using hlt
                  go_wp2_with fail
                  go_meet
                  case rel => exact ⟨rfl, by rw [HT1.out, hwp, hdc]; rfl⟩
            case rest =>
              obtain ⟨rfl, rfl⟩ := hcut
              obtain ⟨P1, hP1⟩ : ∃ P1 : List UInt8, P1 = if t1 then List.replicate (f.wid - W).toNat c else [] := ⟨_, rfl⟩
              have HP1 := hide hP1
              clear hP1
              go_upto_if 94 with fail
              go_cut [] from 95 to 102 (fun wx => FB wx base Bf F f P1 ∧ Keep base Bf w wx)
              case first =>
                cases t1
                · go_wp2_with fail
                  go_meet
                  case rel => exact ⟨by rw [HP1.out]; exact h, Keep.refl _ _ _⟩
                · go_wp2_with (go_at_call 47; refine (pad_any _ base Bf F f [] _ c HC h (by simp; omega)).mono ?_; rintro e w' ⟨rfl, hfb, hkp⟩)
                  go_meet
                  case rel => exact ⟨by rw [HP1.out]; simpa using hfb, hkp⟩
              case rest =>
                rename World => wq
                obtain ⟨hfb, hkp⟩ := hcut
                clear k0 k1 k2 k3 k5 k6 k7 k13 k14
                obtain ⟨j0, j1, j2, j3, j5, j6, j7, j13, j14⟩ := hfb.cell
                obtain ⟨v, hv, hown⟩ := hfb.hB
                obtain ⟨ao1, c1, rfl⟩ := slice_shape hown
                have jB := cell_of_one hv
                have hbs := hfb.hbs
                have hFb := hfb.hFb
                have hBb := hfb.hBb
                have hP1 : P1.length ≤ 65536 := by
                  rw [HP1.out]
                  cases t1
                  · simp
                  · simp; omega
                go_upto_if 113 with fail
                go_cut [10] from 103 to 118 (fun s10 wx => ∃ ao n cp, s10 = .slice ao n cp ∧ wx.ownsRow base 5 1 (.slice ao n cp) n (bytesV (P1 ++ sbxTo dg.data.toList f.sh f.sp src 0)) ∧ Below base wq wx)
                case first =>
                  cases hsh : f.sh
                  · rw [hsh] at j5
                    go_wp2_with fail
                    go_meet
                    case rel => exact ⟨_, _, _, rfl, by simpa [sbxTo, hsh] using hown, Below.refl _ _⟩
                  · rw [hsh] at j5
                    go_wp2_with (at_builtin; go_loud (refine wpList_app rfl (.tmp 114) (.tmp 117) 45 rfl Eehg.underlying45 base _ _ P1 (by rfl) (hown.alloc _) _ 2 2 [48, dg[16]] (by rfl) rfl (news2 wq 48 dg[16] 5) (by decide) (by omega) (by simp; omega) ?_); intro g cap n' w2 hown2 hbl2)
                    go_wp2_with fail
                    go_meet
                    case rel =>
                      refine ⟨_, _, _, rfl, ?_, ((Below.refl _ _).alloc hbs _).trans hbl2⟩
                      have e : P1 ++ sbxTo dg.data.toList f.sh f.sp src 0 = P1 ++ ([48, dg[16]] : List UInt8) := by simp [sbxTo, hsh, pre, at8_str dg 16 (by omega)]
                      rw [e]
                      exact hown2
                case rest =>
                  obtain ⟨ao2, n2, c2, rfl, hown2, hbl2⟩ := hcut
                  clear hown jB
                  go_wp2_with fail
                  go_loopg [10, 12] l (fun gk s10 s12 wr => ∃ i : Nat, i + gk = l ∧ s12 = .int .i64 i ∧ ∃ ao n cp, s10 = .slice ao n cp ∧ wr.ownsRow base 5 1 (.slice ao n cp) n (bytesV (P1 ++ sbxTo dg.data.toList f.sh f.sp src i)) ∧ Below base wq wr)
                  case atStart => exact ⟨0, by omega, rfl, _, _, _, rfl, hown2, hbl2⟩
                  case round =>
                    obtain ⟨i, hil, rfl, ao3, n3, c3, rfl, hown3, hbl3⟩ := hrel
                    clear hown2 hbl2
                    have r0 := (hbl3.cell (p := ⟨F, 0, none⟩) hFb).trans j0
                    have r1 := (hbl3.cell (p := ⟨F, 1, none⟩) hFb).trans j1
                    have r3 := (hbl3.cell (p := ⟨F, 3, none⟩) hFb).trans j3
                    have r5 := (hbl3.cell (p := ⟨F, 5, none⟩) hFb).trans j5
                    have r6 := (hbl3.cell (p := ⟨F, 6, none⟩) hFb).trans j6
                    have r13 := (hbl3.cell (p := ⟨F, 13, none⟩) hFb).trans j13
                    have hbs3 : base ≤ wr.heap.size := Nat.le_trans hbs hbl3.size
                    have hlen := sbxTo_le dg.data.toList f.sh f.sp src i
                    by_cases hlt : i < l
                    · obtain ⟨t2, ht2⟩ : ∃ t2 : Bool, t2 = (f.sp && decide (0 < i)) := ⟨_, rfl⟩
                      have HT2 := hide ht2
                      clear ht2
                      go_upto_region 24 with fail
                      go_cut [132] from 119 to 132 (fun s132 wx => wr = wx ∧ s132 = .bool t2)
                      case first =>
                        cases hsp : f.sp
                        · rw [hsp] at r6
                          go_wp2_with fail
                          go_meet
                          case rel => exact ⟨rfl, by rw [HT2.out, hsp]; rfl⟩
                        · rw [hsp] at r6
                          go_wp2_with fail
                          go_meet
                          case rel => exact ⟨rfl, by rw [HT2.out, hsp]; simp⟩
                      case rest =>
                        obtain ⟨rfl, rfl⟩ := hcut
                        go_upto_if 132 with fail
                        go_cut [10] from 119 to 145 (fun s10 wx => ∃ ao n cp, s10 = .slice ao n cp ∧ wx.ownsRow base 5 1 (.slice ao n cp) n (bytesV (P1 ++ (sbxTo dg.data.toList f.sh f.sp src i ++ gap dg.data.toList f.sh f.sp i))) ∧ Below base wq wx)
                        case first =>
                          cases t2
                          · go_wp2_with fail
                            go_meet
                            case rel =>
                              refine ⟨_, _, _, rfl, ?_, hbl3⟩
                              have e : gap dg.data.toList f.sh f.sp i = [] := by unfold gap; rw [← HT2.out]; rfl
                              rw [e, List.append_nil]
                              exact hown3
                          · go_upto_if 140 with (at_builtin; refine wpList_app rfl (.tmp 133) (.tmp 134) 45 rfl Eehg.underlying45 base _ _ _ (by rfl) (hown3.alloc _) _ 1 1 [32] (by rfl) rfl (news1 wr 32 5) (by decide) (by simp; omega) (by simp; omega) ?_; intro g4 cap4 n4 w4 hown4 hbl4; have r5 := ((((Below.refl _ _).alloc hbs3 _).trans hbl4).cell (p := ⟨F, 5, none⟩) hFb).trans r5)
                            have hb4 := (((Below.refl _ _).alloc hbs3 _).trans hbl4)
                            cases hsh : f.sh
                            · rw [hsh] at r5
                              go_wp2_with fail
                              go_meet
                              case rel =>
                                refine ⟨_, _, _, rfl, ?_, hbl3.trans hb4⟩
                                have e : gap dg.data.toList f.sh f.sp i = [32] := by unfold gap; rw [← HT2.out, hsh]; rfl
                                rw [e, ← List.append_assoc]
                                exact hown4
                            · rw [hsh] at r5
                              go_wp2_with (at_builtin; refine wpList_app rfl (.tmp 141) (.tmp 144) 45 rfl Eehg.underlying45 base _ _ _ (by rfl) (hown4.alloc _) _ 2 2 [48, dg[16]] (by rfl) rfl (news2 w4 48 dg[16] 5) (by decide) (by simp; omega) (by have := hb4.size; simp; omega) ?_; intro g6 cap6 n6 w6 hown6 hbl6)
                              go_wp2_with fail
                              go_meet
                              case rel =>
                                refine ⟨_, _, _, rfl, ?_, (hbl3.trans hb4).trans (((Below.refl _ _).alloc (by have := hb4.size; omega) _).trans hbl6)⟩
                                have e : gap dg.data.toList f.sh f.sp i = ([32] : List UInt8) ++ ([48, dg[16]] : List UInt8) := by unfold gap; rw [← HT2.out, hsh]; simp [pre, at8_str dg 16 (by omega)]
                                rw [e, ← List.append_assoc, ← List.append_assoc]
                                exact hown6
                        case rest =>
                          obtain ⟨ao5, n5, c5, rfl, hown5, hbl5⟩ := hcut
                          rename World => w5
                          clear hown3 hlen
                          have r2 : ∀ (w : World) (a : Option Addr) (n c : Nat), (binOp .neq 22 (.slice a n c) (.slice none 0 0)).run Eehg.prog w = .ok (.bool !a.isNone) w := fun w a n c => run_neq_slice_nil w _ _ a n c Eehg.underlying22
                          go_upto_if 147 with fail
                          have hiN : i < src.length := by have := HN.out; omega
                          go_cut [11] from 119 to 154 (fun s11 wx => w5 = wx ∧ s11 = .int .u8 ((src[i]'hiN).toNat : Int))
                          case first =>
                            rcases Hs.out with ⟨rfl, rfl, rfl, hsrc⟩ | ⟨g, o, rfl, rfl, hg1, hg2, hg3⟩
                            · have his : i < s.size := by rw [hsrc] at hiN; simpa using hiN
                              go_wp2_with fail
                              go_meet
                              case rel => exact ⟨rfl, by subst hsrc; rfl⟩
                            · have hcb := ((hbl5.cell (p := ⟨g, o + i, none⟩) hg1).trans (hkp.cell (p := ⟨g, o + i, none⟩) hg1 hg2)).trans (hg3 i hiN)
                              go_wp2_with fail
                              go_meet
                              case rel => exact ⟨rfl, rfl⟩
                          case rest =>
                            obtain ⟨rfl, rfl⟩ := hcut
                            obtain ⟨x, hx⟩ : ∃ x : UInt8, x = src[i]'hiN := ⟨_, rfl⟩
                            have HX := hide hx
                            rw [← hx]
                            clear hx
                            have hx256 : x.toNat < 256 := x.toNat_lt
                            have hq1 : (0 : Int) ≤ (x.toNat : Int) / 16 := by omega
                            have hq2 : (x.toNat : Int) / 16 < (dg.size : Int) := by omega
                            have hq3 : (0 : Int) ≤ (x.toNat : Int) % 16 := by omega
                            have hq4 : (x.toNat : Int) % 16 < (dg.size : Int) := by omega
                            have hand := u8_and15 (x := (x.toNat : Int)) (by omega) (by omega)
                            have hb5 : base ≤ w5.heap.size := Nat.le_trans hbs hbl5.size
                            have hX5 : (P1 ++ (sbxTo dg.data.toList f.sh f.sp src i ++ gap dg.data.toList f.sh f.sp i)).length ≤ 10000000 := by
                              have h1 := sbxTo_le dg.data.toList f.sh f.sp src i
                              have h2 := gap_le dg.data.toList f.sh f.sp i
                              simp only [List.length_append]
                              omega
                            have hn1 : ((x.toNat : Int) / 16).toNat < dg.size := by omega
                            have hn2 : ((x.toNat : Int) % 16).toNat < dg.size := by omega
                            go_upto_region 31 with fail
                            go_region_law (refine step_app rfl (.tmp 155) (.tmp 164) 45 rfl Eehg.underlying45 base _ _ _ (by rfl) (hown5.drew.alloc _) _ 2 2 [dg[((x.toNat : Int) / 16).toNat]'hn1, dg[((x.toNat : Int) % 16).toNat]'hn2] (by rfl) rfl (news2 w5.drew _ _ 5) (by decide) (by omega) (by simp; omega) ?_; intro g7 cap7 n7 w7 hown7 hbl7)
                            all_goals
                              go_wp2_with fail
                              go_roundg (gk - 1)
                              case measure => omega
                              case rel =>
                                refine ⟨i + 1, by omega, by go_num, _, _, _, rfl, ?_, hbl5.trans ((((Below.refl _ _).drew).alloc hb5 _).trans hbl7)⟩
                                have e : P1 ++ sbxTo dg.data.toList f.sh f.sp src (i + 1) = P1 ++ (sbxTo dg.data.toList f.sh f.sp src i ++ gap dg.data.toList f.sh f.sp i) ++ [dg[((x.toNat : Int) / 16).toNat]'hn1, dg[((x.toNat : Int) % 16).toNat]'hn2] :=
                                  sbx_round P1 dg src f.sh f.sp i x hiN HX.out hn1 hn2
                                rw [e]
                                exact hown7
                    · obtain rfl : i = l := by omega
                      have hbf3 := (hbl3.block Bf hBb).trans hv
                      have rB := cell_of_one hbf3
                      have rBf := free_of_one hbf3
                      obtain ⟨t3, ht3⟩ : ∃ t3 : Bool, t3 = (f.wp && decide ((W : Int) < f.wid) && f.mi) := ⟨_, rfl⟩
                      have HT3 := hide ht3
                      clear ht3
                      have hn3 := own_len hown3
                      have hK8 : Keep base Bf wq (wr.setCell ⟨Bf, 0, none⟩ (.slice ao3 n3 c3)) := (Keep.of_below hbl3).buf 0 _
                      have hF8 : FB (wr.setCell ⟨Bf, 0, none⟩ (.slice ao3 n3 c3)) base Bf F f (P1 ++ sbxTo dg.data.toList f.sh f.sp src i) :=
                        hfb.next hK8 ⟨_, one_setCell hbf3, by rw [← hn3]; exact ownsRow_setCell_below hown3 hBb _⟩
                      have hfin := hide (sbx_fin src dg.data.toList f.wid f.prec f.wp f.pp f.mi f.sh f.sp c i W t1 t3 P1 (by rw [← HN.out, ← HL.out]) (by omega) HW.out HT1.out HT3.out HP1.out)
                      clear hn3
                      go_upto_region 33 with fail
                      generalize wr.setCell ⟨Bf, 0, none⟩ (.slice ao3 n3 c3) = w8 at *
                      clear r0 r1 r3 r5 r6 r13 rB rBf j0 j1 j2 j3 j5 j6 j7 j13 j14
                      obtain ⟨k0, k1, -, k3, -, -, -, k13, -⟩ := hF8.cell
                      go_cut [191] from 166 to 191 (fun s191 wx => w8 = wx ∧ s191 = .bool t3)
                      case first =>
                        cases hwp : f.wp
                        · rw [hwp] at k1
                          go_wp2_with fail
                          go_meet
                          case rel => exact ⟨rfl, by rw [HT3.out, hwp]; rfl⟩
                        · rw [hwp] at k1
                          by_cases hlt : (W : Int) < f.wid
                          · have hdc : decide ((W : Int) < f.wid) = true := by simpa using hlt
                            go_wp2_with fail
                            go_meet
                            case rel => exact ⟨rfl, by rw [HT3.out, hwp, hdc]; rfl⟩
                          · have hdc : decide ((W : Int) < f.wid) = false := by simpa using hlt
                            go_wp2_with fail
                            go_meet
                            case rel => exact ⟨rfl, by rw [HT3.out, hwp, hdc]; rfl⟩
                      case rest =>
                        obtain ⟨rfl, rfl⟩ := hcut
                        cases t3
                        · go_wp2_with fail
                          go_end0
                          refine ⟨rfl, ?_, hkp.trans hK8⟩
                          rw [hfin.out]
                          simpa using hF8
                        · go_wp2_with (go_at_call 47; refine (pad_any _ base Bf F f _ _ c HC hF8 (by simp only [List.length_append]; omega)).mono ?_; rintro e w' ⟨rfl, hfb9, hkp9⟩)
                          go_end0
                          refine ⟨rfl, ?_, (hkp.trans hK8).trans hkp9⟩
                          rw [hfin.out]
                          exact hfb9

set_option maxHeartbeats 400000 in
theorem zsbx_any (w : World) (base Bf F : Nat) (f : Fl) (s dg : ByteArray) (ao : Option Addr) (nb cb : Nat) (src : List UInt8) (c : UInt8) (HC : Hid (c = (if f.ze then 48 else 32))) (h : FB w base Bf F f [])
    (hs : SrcAt w base Bf s ao nb cb src) (hl : src.length ≤ 65536) (hw1 : -65536 ≤ f.wid) (hw2 : f.wid ≤ 65536) (hp : f.pp = true → -65536 ≤ f.prec) (hd : 17 ≤ dg.size) :
    Calls Eehg.prog 32 #[.pointer (some ⟨F, 0, none⟩), .string s, .slice ao nb cb, .string dg] w fun e w' => e = .returned (.tuple #[]) ∧ FB w' base Bf F f (sbxOut src dg.data.toList f.wid f.prec f.wp f.pp f.mi f.sh f.sp c) ∧ Keep base Bf w w' := by
  have hc := sbx_any w base Bf F f s dg ao nb cb src c HC h hs hl hw1 hw2 hp hd
  clear hs hp
  go_enter Eehg.func32, Eehg.ntmps32
  go_wp2_with (go_at_call 41; refine hc.mono ?_; rintro e w' ⟨rfl, hfb, hkp⟩)
  go_end0
  exact ⟨rfl, hfb, hkp⟩

end Go.Proofs.YoeehwDoor
