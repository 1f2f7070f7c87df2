/-
  The law's own model of fmtS: zzCount (17), zzRuneOffset (45), zzTruncModel (39), zzTextModel (22); zzIsPrefix (16).
-/
import Derived.Test.YoeehwDoorWidth
import Derived.Test.YoeehwDoorText
import Derived.Test.YoeehwDoorSlices
namespace Go.Proofs.YoeehwDoor
open Go.RowKit

set_option maxHeartbeats 400000 in
theorem count_any (w : World) (ao : Option Addr) (n c : Nat) (s : ByteArray) (hx : BytesAt w ao n s.data.toList) (hn : n ≤ 1000000) :
    Calls Eehg.prog 17 #[.slice ao n c] w fun e w' => (∃ k : Nat, e = .returned (.int .i64 k) ∧ IsCnt s k) ∧ w = w' := by
  have hns : n = s.size := by rw [hx.1, Array.length_toList]; rfl
  have HX := hide hx
  have HNS := hide hns
  clear hx hns
  go_enter Eehg.func17, Eehg.ntmps17
  go_wp2_with fail
  go_loopg [3, 4] n (fun gk v i wr => ∃ k p : Nat, v = .int .i64 k ∧ i = .int .i64 p ∧ Hid (p = offTo s k) ∧ gk = n - p ∧ p ≤ n ∧ k ≤ p ∧ w = wr ∧ Hid (∀ j, j < k → offTo s j < s.size))
  case atStart => exact ⟨0, 0, rfl, rfl, rfl, by omega, Nat.zero_le _, Nat.zero_le _, rfl, fun j hj => by omega⟩
  case round =>
    obtain ⟨k, p, rfl, rfl, hp, hgk, hpn, hkp, rfl, hall⟩ := hrel
    by_cases hlt : p < n
    · have hps : offTo s k < s.size := by have := hp.out; have := HNS.out; omega
      have hw1 := wd_pos s p (by have := HNS.out; omega)
      have hw2 := wd_le s p (by have := HNS.out; omega)
      have hw3 : p + wd s p ≤ n := by have := HNS.out; omega
      have HS : Hid (offTo s (k + 1) = p + wd s p) := by show _ = _; rw [offTo_next s k hps, ← hp.out]
      clear hps hw2
      go_wp2_with (go_at_call 36; refine (width_any _ ao n c p s HX.out hlt hn).mono ?_; rintro e w' ⟨rfl, rfl⟩)
      go_roundg (n - (p + wd s p))
      case measure => omega
      case rel =>
        refine ⟨k + 1, p + wd s p, by go_num, by go_num, HS.out.symm, rfl, hw3, by omega, rfl, fun j hj => ?_⟩
        rcases Nat.lt_or_ge j k with h | h
        · exact hall.out j h
        · obtain rfl : j = k := by omega
          have := hp.out; have := HNS.out; omega
    · go_wp2_with fail
      go_ret
      exact ⟨⟨k, rfl, by have := hp.out; have := HNS.out; omega, hall.out⟩, rfl⟩

set_option maxHeartbeats 400000 in
theorem off_any (w : World) (ao : Option Addr) (n c : Nat) (K : Int) (s : ByteArray) (hx : BytesAt w ao n s.data.toList) (hn : n ≤ 1000000) (hK : 0 ≤ K) (hK2 : K ≤ 9223372036854775807) :
    Calls Eehg.prog 45 #[.slice ao n c, .int .i64 K] w fun e w' => e = .returned (.int .i64 (offTo s K.toNat : Int)) ∧ w = w' := by
  have hns : n = s.size := by rw [hx.1, Array.length_toList]; rfl
  have HX := hide hx
  have HNS := hide hns
  clear hx hns
  go_enter Eehg.func45, Eehg.ntmps45
  go_wp2_with fail
  go_loopg [1, 5] n (fun gk v i wr => ∃ k p : Nat, v = .int .i64 (K - k) ∧ i = .int .i64 p ∧ Hid (p = offTo s k) ∧ gk = n - p ∧ p ≤ n ∧ (k : Int) ≤ K ∧ w = wr)
  case atStart => exact ⟨0, 0, by go_num, rfl, rfl, by omega, Nat.zero_le _, by omega, rfl⟩
  case round =>
    obtain ⟨k, p, rfl, rfl, hp, hgk, hpn, hkK, rfl⟩ := hrel
    by_cases hK0 : K - k > 0
    · have hd0 : decide (0 < K - (k : Int)) = true := by simp; omega
      by_cases hlt : p < n
      · have hps : offTo s k < s.size := by have := hp.out; have := HNS.out; omega
        have hw1 := wd_pos s p (by have := HNS.out; omega)
        have hw2 := wd_le s p (by have := HNS.out; omega)
        have hw3 : p + wd s p ≤ n := by have := HNS.out; omega
        have HS : Hid (offTo s (k + 1) = p + wd s p) := by show _ = _; rw [offTo_next s k hps, ← hp.out]
        clear hps hw2
        go_wp2_with (go_at_call 36; refine (width_any _ ao n c p s HX.out hlt hn).mono ?_; rintro e w' ⟨rfl, rfl⟩)
        go_roundg (n - (p + wd s p))
        case measure => omega
        case rel => exact ⟨k + 1, p + wd s p, by go_num, by go_num, HS.out.symm, rfl, hw3, by omega, rfl⟩
      · have he : Hid (offTo s K.toNat = p) := by
          show _ = _
          have hst := offTo_stay s k (by have := hp.out; have := HNS.out; omega) (K.toNat - k)
          rw [show k + (K.toNat - k) = K.toNat by omega] at hst
          rw [hst, hp.out]
        go_wp2_with fail
        go_ret
        exact ⟨by rw [he.out]; rfl, rfl⟩
    · have hd0 : decide (0 < K - (k : Int)) = false := by simp; omega
      have he : Hid (offTo s K.toNat = p) := by show _ = _; rw [show K.toNat = k by omega, hp.out]
      go_wp2_with fail
      go_ret
      exact ⟨by rw [he.out]; rfl, rfl⟩

theorem extract_list (s : ByteArray) (n : Nat) : (s.extract 0 n).data.toList = s.data.toList.take n := by
  cases s with
  | mk d => simp [ByteArray.extract, ByteArray.copySlice]

theorem BytesAt.take {w : World} {ao : Option Addr} {n : Nat} {xs : List UInt8} (h : BytesAt w ao n xs) (m : Nat) (hm : m ≤ n) : BytesAt w ao m (xs.take m) := by
  refine ⟨by rw [List.length_take]; have := h.1; omega, fun j hj => ?_⟩
  have hj' : j < xs.length := by rw [List.length_take] at hj; omega
  obtain ⟨g, o, e, hc⟩ := h.2 j hj'
  exact ⟨g, o, e, by rw [List.getElem_take]; exact hc⟩

set_option maxHeartbeats 400000 in
theorem truncM_any (w : World) (g o n c : Nat) (prec : Int) (pp : Bool) (s : ByteArray) (hx : BytesAt w (some ⟨g, o, none⟩) n s.data.toList) (hn : n ≤ 1000000) (hnc : n ≤ c) (hp2 : prec ≤ 9223372036854775807) :
    Calls Eehg.prog 39 #[.slice (some ⟨g, o, none⟩) n c, .int .i64 prec, .bool pp] w fun e w' => (∃ a' n' c', e = .returned (.slice (some a') n' c') ∧ BytesAt w (some a') n' (trunc s prec pp).data.toList) ∧ w = w' := by
  have hns : n = s.size := by rw [hx.1, Array.length_toList]; rfl
  have HX := hide hx
  have HNS := hide hns
  clear hx hns
  cases pp
  · go_enter Eehg.func39, Eehg.ntmps39
    go_wp2_with fail
    go_ret
    exact ⟨⟨_, _, _, rfl, HX.out⟩, rfl⟩
  · by_cases hneg : prec < 0
    · have ho := offTo_le s 0
      have hob : offTo s 0 ≤ n := by have := HNS.out; omega
      have he : Hid ((trunc s prec true).data.toList = s.data.toList.take (offTo s 0)) := by show _ = _; rw [trunc, if_pos rfl, extract_list, show prec.toNat = 0 by omega]
      go_enter Eehg.func39, Eehg.ntmps39
      go_wp2_with (go_at_call 45; refine (off_any _ _ n c 0 s HX.out hn (by omega) (by omega)).mono ?_; rintro e w' ⟨rfl, rfl⟩)
      go_ret
      exact ⟨⟨_, _, _, rfl, by rw [he.out]; exact HX.out.take _ hob⟩, rfl⟩
    · have he : Hid ((trunc s prec true).data.toList = s.data.toList.take (offTo s prec.toNat)) := by show _ = _; rw [trunc, if_pos rfl, extract_list]
      have hob : offTo s prec.toNat ≤ n := by have := offTo_le s prec.toNat; have := HNS.out; omega
      go_enter Eehg.func39, Eehg.ntmps39
      go_wp2_with (go_at_call 45; refine (off_any _ _ n c prec s HX.out hn (by omega) hp2).mono ?_; rintro e w' ⟨rfl, rfl⟩)
      go_ret
      exact ⟨⟨_, _, _, rfl, by rw [he.out]; exact HX.out.take _ hob⟩, rfl⟩

/-- zzAround, the number an int. -/
theorem around_int (w : World) (ao : Option Addr) (n cp : Nat) (p : Int) (c : UInt8) (left : Bool) (xs : List UInt8) (hnil : ao = none → cp = 0) (hx : BytesAt w ao n xs) (hp : 0 ≤ p) (hb : n + p.toNat ≤ 10000000) :
    Calls Eehg.prog 30 #[.slice ao n cp, .int .i64 p, .int .u8 (c.toNat : Int), .bool left] w fun e w' => ∃ ao' n' c', e = .returned (.slice ao' n' c') ∧ BytesAt w' ao' n' (around xs p.toNat c left) ∧ Below w.heap.size w w' := by
  obtain ⟨k, rfl⟩ := Int.eq_ofNat_of_zero_le hp
  rw [Int.toNat_natCast] at hb ⊢
  refine (around_any w ao n cp k c left xs hnil hx hb).mono ?_
  rintro e w' ⟨ao', n', c', rfl, hown, hbl⟩
  exact ⟨ao', n', c', rfl, BytesAt.of_own hown, hbl⟩

/-- The number of pad bytes, as zzTextModel reckons it. -/
theorem padS_eq (wid : Int) (wp : Bool) (k : Nat) : (if wp && decide ((k : Int) < wid) then wid - k else 0).toNat = padS wid wp k := by
  unfold padS
  cases wp
  · simp
  · by_cases h : (k : Int) < wid
    · simp [h]
    · have : (wid - (k : Int)).toNat = 0 := by omega
      simp [h, this]

set_option maxHeartbeats 1000000 in
theorem textM_any (w : World) (g o n c : Nat) (wid prec : Int) (wp pp mi ze : Bool) (s : ByteArray) (k : Nat) (cc : UInt8) (HC : Hid (cc = (if ze then 48 else 32))) (hx : BytesAt w (some ⟨g, o, none⟩) n s.data.toList) (hn : n ≤ 65536) (hnc : n ≤ c) (hp2 : prec ≤ 9223372036854775807) (hk : IsCnt (trunc s prec pp) k) (hw1 : -65536 ≤ wid) (hw2 : wid ≤ 65536) :
    Calls Eehg.prog 22 #[.slice (some ⟨g, o, none⟩) n c, .int .i64 wid, .bool wp, .int .i64 prec, .bool pp, .bool mi, .bool ze] w fun e w' => (∃ ao' n' c', e = .returned (.slice ao' n' c') ∧ BytesAt w' ao' n' (around (trunc s prec pp).data.toList (padS wid wp k) cc (!mi))) ∧ Below w.heap.size w w' := by
  have hns : n = s.size := by rw [hx.1, Array.length_toList]; rfl
  have hts := trunc_le s prec pp
  have htm := truncM_any w g o n c prec pp s hx (by omega) hnc hp2
  have Hk := hide hk
  have hkl := hk.le
  have HP := hide (padS_eq wid wp k)
  have htl : (trunc s prec pp).data.toList.length = (trunc s prec pp).size := Array.length_toList
  have HTL := hide htl
  rw [← hns] at hts
  clear hx hns hk htl
  go_enter Eehg.func22, Eehg.ntmps22
  go_upto_region 2 with (go_at_call 39; refine htm.mono ?_; rintro e w' ⟨⟨a1, n1, c1, rfl, hy1⟩, rfl⟩)
  have hn1 : n1 ≤ 65536 := by have := hy1.1; have := HTL.out; omega
  have HY1 := hide hy1
  clear hy1 htm
  go_upto_region 4 with (go_at_call 17; refine (count_any _ _ _ _ _ HY1.out (by omega)).mono ?_; rintro e w' ⟨⟨k', rfl, hk'⟩, rfl⟩; obtain rfl := Hk.out.unique hk'; clear hk')
  cases wp
  · go_wp2_with (first | (go_at_call 29; refine (padByte_any ze _).mono ?_; rintro e w' ⟨⟨c', HC', rfl⟩, rfl⟩; obtain rfl : cc = c' := HC.out.trans HC'.out.symm) | (go_at_call 30; refine (around_int _ _ _ _ _ _ _ _ (fun e => by cases e) HY1.out (by omega) (by omega)).mono ?_; rintro e w3 ⟨a3, n3, c3, rfl, hy3, hb3⟩))
    go_ret
    exact ⟨⟨_, _, _, rfl, by rw [← HP.out]; exact hy3⟩, hb3⟩
  · by_cases hlt : (k : Int) < wid
    · have hdc : Hid (decide ((k : Int) < wid) = true) := by show _ = _; simpa using hlt
      go_wp2_with (first | (go_at_call 29; refine (padByte_any ze _).mono ?_; rintro e w' ⟨⟨c', HC', rfl⟩, rfl⟩; obtain rfl : cc = c' := HC.out.trans HC'.out.symm) | (go_at_call 30; refine (around_int _ _ _ _ _ _ _ _ (fun e => by cases e) HY1.out (by omega) (by omega)).mono ?_; rintro e w3 ⟨a3, n3, c3, rfl, hy3, hb3⟩))
      go_ret
      exact ⟨⟨_, _, _, rfl, by rw [← HP.out, hdc.out]; exact hy3⟩, hb3⟩
    · have hdc : Hid (decide ((k : Int) < wid) = false) := by show _ = _; simpa using hlt
      go_wp2_with (first | (go_at_call 29; refine (padByte_any ze _).mono ?_; rintro e w' ⟨⟨c', HC', rfl⟩, rfl⟩; obtain rfl : cc = c' := HC.out.trans HC'.out.symm) | (go_at_call 30; refine (around_int _ _ _ _ _ _ _ _ (fun e => by cases e) HY1.out (by omega) (by omega)).mono ?_; rintro e w3 ⟨a3, n3, c3, rfl, hy3, hb3⟩))
      go_ret
      exact ⟨⟨_, _, _, rfl, by rw [← HP.out, hdc.out]; exact hy3⟩, hb3⟩

end Go.Proofs.YoeehwDoor
