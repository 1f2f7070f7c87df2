/-
  FnFmtSbxHexModel (function 9): the walk's main way.
-/
import Derived.Test.YoeehwDoorLawB
namespace Go.Proofs.YoeehwDoor
open Go.RowKit

/-- What a row that the call owns gives fmtSbx to read. -/
theorem src_of_own {w w' : World} {base base' Bf n c : Nat} {ao : Option Addr} {s : ByteArray} {xs : List UInt8} (h : w.ownsRow base 5 1 (.slice ao n c) n (bytesV xs)) (hb : Below w.heap.size w w') (h1 : w.heap.size ≤ Bf) (h2 : Bf < base') (hnn : ao.isNone = false) :
    SrcAt w' base' Bf s ao n c xs := by
  have hn := own_len h
  rcases h.2 with ⟨h', h0⟩ | ⟨g, cap, cur, h', _, hg, _⟩
  · simp only [Value.slice.injEq] at h'
    rw [h'.1] at hnn
    cases hnn
  · simp only [Value.slice.injEq] at h'
    obtain ⟨rfl, _, rfl⟩ := h'
    have hlt := lt_of_block hg
    refine .inr ⟨g, 0, rfl, hn, by omega, by omega, fun j hj => ?_⟩
    rw [hb.cell (by show g < _; omega), Nat.zero_add, h.cellAt j (by omega), bytesV_get xs j hj]

theorem nil_of_own {w : World} {base n c : Nat} {ao : Option Addr} {xs : List Value} (h : w.ownsRow base 5 1 (.slice ao n c) n xs) : ao = none → c = 0 := by
  intro e
  subst e
  rcases h.2 with ⟨h', _⟩ | ⟨g, cap, cur, h', _⟩
  · simp only [Value.slice.injEq] at h'
    exact h'.2.2
  · simp at h'

/-- zzAround, the number an int. -/
theorem around_i (w : World) (ao : Option Addr) (n cp : Nat) (p : Int) (c : UInt8) (left : Bool) (xs : List UInt8) (hnil : ao = none → cp = 0) (hx : BytesAt w ao n xs) (hp : 0 ≤ p) (hb : n + p.toNat ≤ 10000000) :
    Calls Eehg.prog 30 #[.slice ao n cp, .int .i64 p, .int .u8 (c.toNat : Int), .bool left] w fun e w' => ∃ ao' n' c', e = .returned (.slice ao' n' c') ∧ BytesAt w' ao' n' (around xs p.toNat c left) ∧ Below w.heap.size w w' := by
  obtain ⟨k, rfl⟩ := Int.eq_ofNat_of_zero_le hp
  rw [Int.toNat_natCast] at hb ⊢
  refine (around_any w ao n cp k c left xs hnil hx hb).mono ?_
  rintro e w' ⟨ao', n', c', rfl, hown, hbl⟩
  exact ⟨ao', n', c', rfl, BytesAt.of_own hown, hbl⟩

set_option maxRecDepth 100000 in
set_option maxHeartbeats 1000000 in
theorem lawB_main (s dg : ByteArray) (ao : Option Addr) (n cp : Nat) (bs : List UInt8) (wid prec : Int) (wp pp mi sh sp ze : Bool) (w : World) (hw : 2 ≤ w.heap.size) (hmax : w.cell? ⟨0, 0, none⟩ = some (.int .i64 2147483647))
    (hnil : ao = none → cp = 0) (hx : BytesAt w ao n bs)
    (c1 : s.size ≤ 65536) (c0 : n ≤ 65536) (c2 : dg.size ≤ 65536) (c3 : 17 ≤ dg.size) (c4 : -65536 ≤ wid) (c5 : wid ≤ 65536) (Hp : Hid (pp = true → -65536 ≤ prec)) :
    Calls Eehg.prog 9 #[.string s, .slice ao n cp, .string dg, .int .i64 wid, .bool wp, .int .i64 prec, .bool pp, .bool mi, .bool sh, .bool sp, .bool ze] w fun e w' => e = .returned (.bool true) ∧ Below w.heap.size w w' := by
  have hz := zb28 s dg ao n cp wid prec wp pp mi sh sp ze w (by unfold maxLen; omega) (by unfold maxLen; omega) (by unfold maxLen; omega)
  have hcl := clone_any w ao n cp bs hnil hx (by omega)
  have HN := hide hx.1
  clear hx hnil
  have q22 : ∀ (w : World) (a : Option Addr) (n c : Nat), (binOp .eql 22 (.slice a n c) (.slice none 0 0)).run Eehg.prog w = .ok (.bool a.isNone) w := fun w a n c => Lib.run_eql_slice_nil w _ _ a n c 0 0 Eehg.underlying22
  have hcv := fun w s => run_bytes_of_string (P := Eehg.prog) w 9 22 5 s Eehg.underlying9 Eehg.underlying22 Eehg.underlying5
  go_enter Eehg.func9, Eehg.ntmps9
  go_upto_region 9 with (go_at_call 28; refine hz.mono ?_; rintro e w' ⟨⟨r, rfl⟩, rfl⟩; cases r)
  · go_ret
    exact ⟨rfl, Below.refl _ _⟩
  · go_cut [70] from 66 to 70 (fun s70 wx => w = wx ∧ s70 = .bool false)
    case first =>
      cases pp
      · go_wp2_with fail
        go_meet
        case rel => exact ⟨rfl, rfl⟩
      · have hp := Hp.out rfl
        go_wp2_with fail
        go_meet
        case rel => exact ⟨rfl, by simp; omega⟩
    case rest =>
      obtain ⟨rfl, rfl⟩ := hcut
      go_wp2_with fail
      refine hcl.mono ?_
      rintro e w1 ⟨ao1, cp1, rfl, hiso, hnil1, hown1, hb1⟩
      clear hcl hz
      have hs1 := hb1.size
      have HI := hide hiso
      have Hnil1 := hide hnil1
      clear hiso hnil1
      obtain ⟨src, hsrc⟩ : ∃ src : List UInt8, src = if ao1.isNone then s.data.toList else bs := ⟨_, rfl⟩
      have HS := hide hsrc
      have hsl : src.length ≤ 65536 := by
        rw [hsrc]
        split
        · simpa using c1
        · have := HN.out; omega
      clear hsrc
      go_upto_if 75 with fail
      go_cut [23] from 73 to 77 (fun s23 wx => ∃ ao2 n2 c2, s23 = .slice ao2 n2 c2 ∧ BytesAt wx ao2 n2 src ∧ Below w1.heap.size w1 wx)
      case first =>
        cases hao : ao1.isNone
        · go_wp2_with fail
          go_meet
          case rel =>
            refine ⟨_, _, _, rfl, ?_, Below.refl _ _⟩
            rw [HS.out, hao]
            exact BytesAt.of_own hown1
        · go_wp2_with fail
          go_meet
          case rel =>
            refine ⟨_, _, _, rfl, ?_, ((Below.refl _ _).alloc (Nat.le_refl _) _).drew⟩
            rw [HS.out, hao]
            exact ⟨by simp, fun j hj => ⟨_, 0, rfl, conv_cells w1 s _ _ j hj⟩⟩
      case rest =>
        obtain ⟨ao2, n2, cp2, rfl, hy2, hb2⟩ := hcut
        rename World => w2
        clear hcv q22
        have HY2 := hide hy2
        have hn2 : n2 = src.length := hy2.1
        have hn2b : n2 ≤ 65536 := by omega
        obtain ⟨L, hL⟩ : ∃ L, L = lenOf n2 prec pp := ⟨_, rfl⟩
        have hLb := lenOf_bd n2 prec pp Hp.out
        rw [← hL] at hLb
        have HL := hide hL
        have HN2 := hide hn2
        obtain ⟨hL1, hL2⟩ := hLb
        obtain ⟨tt, htt⟩ : ∃ tt : Bool, tt = (pp && decide (prec < (n2 : Int))) := ⟨_, rfl⟩
        have HT := hide htt
        clear hL hn2 hy2 htt
        go_upto_region 16 with fail
        go_cut [85] from 78 to 85 (fun s85 wx => w2 = wx ∧ s85 = .bool tt)
        case first =>
          cases pp
          · go_wp2_with fail
            go_meet
            case rel => exact ⟨rfl, by rw [HT.out]; rfl⟩
          · go_wp2_with fail
            go_meet
            case rel => exact ⟨rfl, by rw [HT.out]; rfl⟩
        case rest =>
          obtain ⟨rfl, rfl⟩ := hcut
          go_upto_if 85 with fail
          go_cut [24] from 78 to 86 (fun s24 wx => w2 = wx ∧ s24 = .int .i64 L)
          case first =>
            cases tt
            · go_wp2_with fail
              go_meet
              case rel => exact ⟨rfl, by rw [HL.out]; unfold lenOf; rw [← HT.out]; rfl⟩
            · go_wp2_with fail
              go_meet
              case rel => exact ⟨rfl, by rw [HL.out]; unfold lenOf; rw [← HT.out]; rfl⟩
          case rest =>
            obtain ⟨rfl, rfl⟩ := hcut
            go_upto_if 90 with (go_at_call 29; refine (padByte_any ze _).mono ?_; rintro e w' ⟨⟨c, HC, rfl⟩, rfl⟩)
            obtain ⟨OUT, hOUT⟩ : ∃ OUT, OUT = sbxOut src dg.data.toList wid prec wp pp mi sh sp c := ⟨_, rfl⟩
            have HO := hide hOUT
            clear hOUT
            go_cut [26] from 87 to 122 (fun s26 wx => ∃ ao3 n3 c3, s26 = .slice ao3 n3 c3 ∧ BytesAt wx ao3 n3 OUT ∧ Below w2.heap.size w2 wx)
            case first =>
              by_cases hpos : L ≤ 0
              · have hO2 : Hid (OUT = around [] (if wp && decide (0 < wid) then wid else 0).toNat c true) := by
                  show _ = _
                  rw [HO.out]
                  exact hex_none src dg.data.toList wid prec wp pp mi sh sp c (by rw [← HN2.out, ← HL.out]; exact hpos)
                have hnb : BytesAt w2 none 0 [] := ⟨rfl, fun j hj => by simp at hj⟩
                cases wp
                · go_wp2_with (go_at_call 30; refine (around_i _ none 0 0 _ c true [] (fun _ => rfl) hnb (by omega) (by omega)).mono ?_; rintro e w3 ⟨a3, n3, c3, rfl, hy3, hb3⟩)
                  go_meet
                  case rel => exact ⟨_, _, _, rfl, by rw [hO2.out]; exact hy3, hb3⟩
                · by_cases hlt : 0 < wid
                  · have hdc : decide (0 < wid) = true := by simpa using hlt
                    go_wp2_with (go_at_call 30; refine (around_i _ none 0 0 _ c true [] (fun _ => rfl) hnb (by omega) (by omega)).mono ?_; rintro e w3 ⟨a3, n3, c3, rfl, hy3, hb3⟩)
                    go_meet
                    case rel => exact ⟨_, _, _, rfl, by rw [hO2.out, hdc]; exact hy3, hb3⟩
                  · have hdc : decide (0 < wid) = false := by simpa using hlt
                    go_wp2_with (go_at_call 30; refine (around_i _ none 0 0 _ c true [] (fun _ => rfl) hnb (by omega) (by omega)).mono ?_; rintro e w3 ⟨a3, n3, c3, rfl, hy3, hb3⟩)
                    go_meet
                    case rel => exact ⟨_, _, _, rfl, by rw [hO2.out, hdc]; exact hy3, hb3⟩
              · obtain ⟨l, rfl⟩ : ∃ l : Nat, L = ((l + 1 : Nat) : Int) := ⟨(L - 1).toNat, by omega⟩
                have hO2 := hide (hex_some src dg.data.toList wid prec wp pp mi sh sp c l (by rw [← HN2.out, ← HL.out]) _ rfl)
                have hle := hmTo_le dg.data.toList sh sp src (l + 1)
                go_upto_region 27 with (go_at_call 31; refine (hex_any _ ao2 n2 cp2 (l + 1) dg sh sp src HY2.out (by omega) hn2b c3).mono ?_; rintro e w5 ⟨a5, n5, c5', rfl, hown5, hb5⟩)
                have hn5 := own_len hown5
                have HN5 := hide hn5
                have hn5b : n5 ≤ 1000000 := by omega
                have hy5 := BytesAt.of_own hown5
                have hnil5 := nil_of_own hown5
                have HY5 := hide (And.intro hy5 hnil5)
                clear hn5 hy5 hnil5 hown5 hle
                cases wp
                · go_wp2_with (go_at_call 30; refine (around_i _ a5 n5 c5' _ c _ _ HY5.out.2 HY5.out.1 (by omega) (by omega)).mono ?_; rintro e w6 ⟨a6, n6, c6, rfl, hy6, hb6⟩)
                  go_meet
                  case rel => exact ⟨_, _, _, rfl, by rw [HO.out, hO2.out]; exact hy6, hb5.trans (hb6.mono hb5.size)⟩
                · by_cases hlt : (n5 : Int) < wid
                  · have hdc : Hid (decide ((n5 : Int) < wid) = true) := by show _ = _; simpa using hlt
                    go_wp2_with (go_at_call 30; refine (around_i _ a5 n5 c5' _ c _ _ HY5.out.2 HY5.out.1 (by omega) (by omega)).mono ?_; rintro e w6 ⟨a6, n6, c6, rfl, hy6, hb6⟩)
                    go_meet
                    case rel => exact ⟨_, _, _, rfl, by rw [HO.out, hO2.out, ← HN5.out, hdc.out]; exact hy6, hb5.trans (hb6.mono hb5.size)⟩
                  · have hdc : Hid (decide ((n5 : Int) < wid) = false) := by show _ = _; simpa using hlt
                    go_wp2_with (go_at_call 30; refine (around_i _ a5 n5 c5' _ c _ _ HY5.out.2 HY5.out.1 (by omega) (by omega)).mono ?_; rintro e w6 ⟨a6, n6, c6, rfl, hy6, hb6⟩)
                    go_meet
                    case rel => exact ⟨_, _, _, rfl, by rw [HO.out, hO2.out, ← HN5.out, hdc.out]; exact hy6, hb5.trans (hb6.mono hb5.size)⟩
            case rest =>
              obtain ⟨ao3, n3, cp3, rfl, hy3, hb3⟩ := hcut
              rename World => w3
              have hB13 : Below w1.heap.size w1 w3 := hb2.trans (hb3.mono hb2.size)
              have hB3 : Below w.heap.size w w3 := hb1.trans (hB13.mono hs1)
              have hs3 := hB3.size
              have hs13 := hB13.size
              go_wp2_with fail
              refine (new_fb wid prec wp pp mi false sh sp ze _ (by omega) ((hB3.cell (p := ⟨0, 0, none⟩) (by show 0 < _; omega)).trans hmax)).mono ?_
              rintro e w4 ⟨rfl, hF4, -, hB4, hS4⟩
              have HS4 := hide hS4
              clear hS4
              have hsrc : Hid (SrcAt w4 (w3.heap.size + 2) w3.heap.size s ao1 n cp1 src) := by
                show SrcAt _ _ _ _ _ _ _ _
                have hS := HS.out
                cases hao : ao1.isNone
                · rw [hao] at hS
                  have e : src = bs := by simpa using hS
                  rw [e]
                  exact src_of_own hown1 (hB13.trans (hB4.mono hs13)) hs13 (by omega) hao
                · rw [hao] at hS
                  have e : src = s.data.toList := by simpa using hS
                  obtain rfl : ao1 = none := by simpa using hao
                  refine .inl ⟨rfl, ?_, Hnil1.out rfl, e⟩
                  rcases hown1.2 with ⟨_, h0⟩ | ⟨g, cap, cur, h', _⟩
                  · exact h0
                  · simp at h'
              go_wp2_with fail
              refine (zsbx_any w4 _ _ _ ⟨wid, prec, wp, pp, mi, sh, sp, ze⟩ s dg ao1 n cp1 src c HC hF4 hsrc.out hsl c4 c5 Hp.out c3).mono ?_
              rintro e w5 ⟨rfl, hF5, hK5⟩
              have hB5 : Below w3.heap.size w3 w5 := hB4.trans (hK5.below (Nat.le_refl _) (by omega))
              go_wp2_with fail
              refine (buf_any w5 _ _ _ _ _ hF5).mono ?_
              rintro e w' ⟨⟨a6, n6, c6, rfl, hown6⟩, rfl⟩
              go_wp2_with fail
              refine (equal_same w' a6 ao3 n6 n3 c6 cp3 OUT (by rw [HO.out]; exact BytesAt.of_own hown6) (hy3.below hB5) (by rw [HO.out]; exact sbxOut_le _ _ _ _ _ _ _ _ _ _ hsl c5)).mono ?_
              rintro e w8 ⟨rfl, q, rfl⟩
              go_wp2_with fail
              go_ret
              exact ⟨rfl, (hB3.trans (hB5.mono hs3)).trans ⟨rfl, rfl, rfl, Nat.le_refl _, fun _ _ => rfl⟩⟩

/-- THE LAW: whatever the input. -/
theorem lawB (s dg : ByteArray) (ao : Option Addr) (n cp : Nat) (bs : List UInt8) (wid prec : Int) (wp pp mi sh sp ze : Bool) (w : World) (hw : 2 ≤ w.heap.size) (hmax : w.cell? ⟨0, 0, none⟩ = some (.int .i64 2147483647))
    (hnil : ao = none → cp = 0) (hx : BytesAt w ao n bs) (hs : s.size ≤ maxLen) (hn : n ≤ maxLen) (hd : dg.size ≤ maxLen) :
    Calls Eehg.prog 9 #[.string s, .slice ao n cp, .string dg, .int .i64 wid, .bool wp, .int .i64 prec, .bool pp, .bool mi, .bool sh, .bool sp, .bool ze] w fun e w' => e = .returned (.bool true) ∧ Below w.heap.size w w' := by
  by_cases hc : s.size ≤ 65536 ∧ n ≤ 65536 ∧ dg.size ≤ 65536 ∧ 17 ≤ dg.size ∧ -65536 ≤ wid ∧ wid ≤ 65536 ∧ (pp = true → -65536 ≤ prec)
  · obtain ⟨c1, c0, c2, c3, c4, c5, c6⟩ := hc
    exact lawB_main s dg ao n cp bs wid prec wp pp mi sh sp ze w hw hmax hnil hx c1 c0 c2 c3 c4 c5 c6
  · exact lawB_early s dg ao n cp wid prec wp pp mi sh sp ze w hs hn hd hc

end Go.Proofs.YoeehwDoor
