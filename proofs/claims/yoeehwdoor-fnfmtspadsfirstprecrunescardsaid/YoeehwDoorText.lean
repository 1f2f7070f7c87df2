/-
  fmtS's road: WriteString (49), RuneCountInString (50), truncateString (37), padString (44), fmtS (38), ZZfmtS (21).
-/
import Derived.Test.YoeehwDoorEq
import Derived.Test.YoeehwDoorRunes
import Derived.Test.YoeehwDoorHexPlain
import Derived.Lib.AppendStr
import Derived.Laws.RangeAny
import Derived.Deep.LoopGhost
import Derived.Deep.RegionWith
namespace Go.Proofs.YoeehwDoor
open Go.RowKit

theorem strCells_eq (s : ByteArray) : Lib.strCells s = bytesV s.data.toList := rfl
theorem slice_of_own {w : World} {base n : Nat} {v : Value} {xs : List Value} (h : w.ownsRow base 5 1 v n xs) : ∃ ao c, v = .slice ao n c := by
  rcases h.2 with ⟨rfl, rfl⟩ | ⟨g, cap, cur, rfl, _⟩ <;> exact ⟨_, _, rfl⟩

set_option maxHeartbeats 400000 in
theorem ws_any (w : World) (base Bf F : Nat) (f : Fl) (xs : List UInt8) (s : ByteArray) (h : FB w base Bf F f xs) (hb : xs.length + s.size ≤ 10000000) :
    Calls Eehg.prog 49 #[.pointer (some ⟨Bf, 0, none⟩), .string s] w fun e w' => e = .returned (.tuple #[]) ∧ FB w' base Bf F f (xs ++ s.data.toList) ∧ Keep base Bf w w' := by
  obtain ⟨i5, hi, hz0, hz1, hz2⟩ := info_parts info5
  obtain ⟨v, hv, hown⟩ := h.hB
  obtain ⟨ao, c, rfl⟩ := slice_of_own hown
  have kB := cell_of_one hv
  have kF := free_of_one hv
  have kmax := h.hmax
  have hbs := h.hbs
  have hBb := h.hBb
  go_enter Eehg.func49, Eehg.ntmps49
  go_wp2_with fail
  go_quiet (fail)
  go_wp2_with (at_builtin; refine Lib.wpList_append_own_string _ rfl (.tmp 17) (.tmp 18) 45 9 rfl base 5 i5 Eehg.underlying45 Eehg.underlying9 hi hz0 hz1 hz2 _ _ _ (by rfl) (show (World.drewN w _).ownsRow _ _ _ _ _ _ from hown) s (by rfl) (by unfold maxLen; omega) (by omega) hbs ?_; intro v' w1 hown1 hg1 _; obtain ⟨ao1, c1, rfl⟩ := slice_of_own hown1; have hb1 : Below base w w1 := below_of_grown (w := w) hown hbs ⟨hg1.os, hg1.tape, hg1.output, hg1.size, hg1.block⟩; have jB := (hb1.cell (p := ⟨Bf, 0, none⟩) hBb).trans kB; have jF := (hb1.frozen (p := ⟨Bf, 0, none⟩) hBb).trans kF)
  go_end0
  have hk := (Keep.of_below (Bf := Bf) hb1).buf 0 (.slice ao1 (xs.length + s.size) c1)
  refine ⟨rfl, h.next hk ⟨_, one_setCell ((hb1.block Bf hBb).trans hv), ?_⟩, hk⟩
  have e : (xs ++ s.data.toList).length = xs.length + s.size := by rw [List.length_append, Array.length_toList]; rfl
  rw [e, bytesV_append]
  exact ownsRow_setCell_below hown1 hBb _

set_option maxHeartbeats 400000 in
theorem cnt_any (w : World) (s : ByteArray) (hs : s.size ≤ maxLen) :
    Calls Eehg.prog 50 #[.string s] w fun e w' => (∃ k : Nat, e = .returned (.int .i64 k) ∧ IsCnt s k) ∧ Below w.heap.size w w' := by
  unfold maxLen at hs
  go_enter Eehg.func50, Eehg.ntmps50
  go_wp2_with fail
  go_loopg [2] s.size (fun gk n wr => ∃ k : Nat, n = .int .i64 k ∧ gk = s.size - offTo s k ∧ wr = w.iter s (offTo s k) ∧ Hid (∀ j, j < k → offTo s j < s.size))
  case atStart => exact ⟨0, rfl, by simp [offTo], rfl, fun j hj => by omega⟩
  case round =>
    obtain ⟨k, rfl, hgk, rfl, hall⟩ := hrel
    have hle := offTo_ge s k hall.out
    have hle2 := offTo_le s k
    by_cases hlt : offTo s k < s.size
    · have hnx := fun ty => run_next_any (P := Eehg.prog) w s (offTo s k) ty hlt
      go_wp2_with fail
      have hw1 := wd_pos s _ hlt
      have hstep := offTo_next s k hlt
      go_roundg (s.size - offTo s (k + 1))
      case measure => omega
      case rel =>
        refine ⟨k + 1, by go_num, rfl, ?_, ?_⟩
        · rw [hstep]; rfl
        · intro j hj
          rcases Nat.lt_or_ge j k with h | h
          · exact hall.out j h
          · obtain rfl : j = k := by omega
            exact hlt
    · have hnx := fun ty => run_next_end (P := Eehg.prog) w s (offTo s k) ty hlt
      go_wp2_with fail
      go_ret
      exact ⟨⟨k, rfl, by omega, hall.out⟩, (Below.refl _ _).alloc (Nat.le_refl _) _⟩

theorem extract_all (s : ByteArray) : s.extract 0 s.size = s := by
  cases s with
  | mk d =>
    have : (ByteArray.mk d).size = d.size := rfl
    rw [this]
    simp [ByteArray.extract, ByteArray.copySlice]

/-- What truncateString returns. -/
def trunc (s : ByteArray) (prec : Int) (pp : Bool) : ByteArray := if pp then s.extract 0 (offTo s prec.toNat) else s

set_option maxHeartbeats 400000 in
theorem trunc_any (w : World) (F : Nat) (f : Fl) (s : ByteArray) (k2 : w.cell? ⟨F, 2, none⟩ = some (.bool f.pp)) (k14 : w.cell? ⟨F, 14, none⟩ = some (.int .i64 f.prec)) (hs : s.size ≤ 65536) (hp : f.pp = true → -65536 ≤ f.prec) (hp2 : f.prec ≤ 9223372036854775807) :
    Calls Eehg.prog 37 #[.pointer (some ⟨F, 0, none⟩), .string s] w fun e w' => e = .returned (.string (trunc s f.prec f.pp)) ∧ Below w.heap.size w w' := by
  cases hpp : f.pp
  · rw [hpp] at k2
    clear hp
    go_enter Eehg.func37, Eehg.ntmps37
    go_wp2_with fail
    go_ret
    exact ⟨rfl, Below.refl _ _⟩
  · rw [hpp] at k2
    have hp1 := hp hpp
    clear hp
    obtain ⟨P, hP⟩ : ∃ P, P = f.prec := ⟨_, rfl⟩
    rw [← hP] at k14 hp1 hp2 ⊢
    clear hP
    go_enter Eehg.func37, Eehg.ntmps37
    go_wp2_with fail
    go_loopg [5] s.size (fun gk n wr => ∃ k : Nat, n = .int .i64 (P - k) ∧ gk = s.size - offTo s k ∧ wr = w.iter s (offTo s k) ∧ (k = 0 ∨ (k : Int) ≤ P) ∧ k ≤ offTo s k)
    case atStart => exact ⟨0, by go_num, by simp [offTo], rfl, .inl rfl, Nat.zero_le _⟩
    case round =>
      obtain ⟨k, rfl, hgk, rfl, hkP, hko⟩ := hrel
      have hle2 := offTo_le s k
      by_cases hlt : offTo s k < s.size
      · have hnx := fun ty => run_next_any (P := Eehg.prog) w s (offTo s k) ty hlt
        have hw1 := wd_pos s _ hlt
        have HS := hide (offTo_next s k hlt)
        by_cases hret : P - k - 1 < 0
        · have hPk : P.toNat = k := by omega
          have he : Hid (trunc s P true = s.extract 0 (offTo s k)) := by show _ = _; rw [trunc, if_pos rfl, hPk]
          clear hPk
          go_wp2_with fail
          go_ret
          exact ⟨by rw [he.out]; rfl, (Below.refl _ _).alloc (Nat.le_refl _) _⟩
        · go_wp2_with fail
          go_roundg (s.size - offTo s (k + 1))
          case measure => have := HS.out; omega
          case rel => exact ⟨k + 1, by go_num, rfl, by rw [HS.out]; rfl, .inr (by omega), by have := HS.out; omega⟩
      · have hnx := fun ty => run_next_end (P := Eehg.prog) w s (offTo s k) ty hlt
        have he : Hid (trunc s P true = s) := by
          show _ = _
          have hst := offTo_stay s k hlt (P.toNat - k)
          have hsum : k + (P.toNat - k) = P.toNat ∨ P.toNat < k := by omega
          have hz : offTo s P.toNat = s.size := by
            rcases hsum with h | h
            · rw [h] at hst; omega
            · have hk0 : k = 0 := by omega
              omega
          rw [trunc, if_pos rfl, hz]
          exact extract_all s
        go_wp2_with fail
        go_ret
        exact ⟨by rw [he.out]; rfl, (Below.refl _ _).alloc (Nat.le_refl _) _⟩

theorem extract_size (s : ByteArray) (n : Nat) (h : n ≤ s.size) : (s.extract 0 n).size = n := by
  rw [ByteArray.size_extract]
  omega

theorem trunc_le (s : ByteArray) (prec : Int) (pp : Bool) : (trunc s prec pp).size ≤ s.size := by
  unfold trunc
  cases pp
  · exact Nat.le_refl _
  · rw [if_pos rfl, extract_size _ _ (offTo_le s _)]
    exact offTo_le s _

/-- What padString puts ahead or behind: so many bytes. -/
def padS (wid : Int) (wp : Bool) (k : Nat) : Nat := if wp then (wid - k).toNat else 0

theorem exists_cnt (s : ByteArray) : ∃ k, IsCnt s k := by
  have h : ∃ k, ¬ offTo s k < s.size := by
    refine Classical.byContradiction fun hn => ?_
    have hall : ∀ j, offTo s j < s.size := fun j => Classical.byContradiction fun hj => hn ⟨j, hj⟩
    have h1 := offTo_ge s (s.size + 1) (fun j _ => hall j)
    have h2 := offTo_le s (s.size + 1)
    omega
  obtain ⟨k, hk, hleast⟩ := exists_least h
  refine ⟨k, by have := offTo_le s k; omega, fun j hj => ?_⟩
  refine Classical.byContradiction fun hn => ?_
  have := hleast j hn
  omega

set_option maxHeartbeats 1000000 in
theorem padS_any (w : World) (base Bf F : Nat) (f : Fl) (s : ByteArray) (k : Nat) (c : UInt8) (HC : Hid (c = (if f.ze then 48 else 32))) (h : FB w base Bf F f []) (hk : IsCnt s k) (hs : s.size ≤ 65536) (hw1 : -65536 ≤ f.wid) (hw2 : f.wid ≤ 65536) :
    Calls Eehg.prog 44 #[.pointer (some ⟨F, 0, none⟩), .string s] w fun e w' => e = .returned (.tuple #[]) ∧ FB w' base Bf F f (around s.data.toList (padS f.wid f.wp k) c (!f.mi)) ∧ Keep base Bf w w' := by
  obtain ⟨k0, k1, -, k3, -, -, -, k13, -⟩ := h.cell
  have Hk := hide hk
  have hkl := hk.le
  clear hk
  obtain ⟨t1, ht1⟩ : ∃ t1 : Bool, t1 = (!f.wp || (f.wid == 0)) := ⟨_, rfl⟩
  have HT1 := hide ht1
  clear ht1
  have hbs := h.hbs
  have hFb := h.hFb
  go_enter Eehg.func44, Eehg.ntmps44
  go_upto_region 0 with fail
  go_cut [17] from 5 to 17 (fun s17 wx => w = wx ∧ s17 = .bool t1)
  case first =>
    cases hwp : f.wp
    · rw [hwp] at k1
      go_wp2_with fail
      go_meet
      case rel => exact ⟨rfl, by rw [HT1.out, hwp]; rfl⟩
    · rw [hwp] at k1
      go_wp2_with fail
      go_meet
      case rel => exact ⟨rfl, by rw [HT1.out, hwp]; simp⟩
  case rest =>
    obtain ⟨rfl, rfl⟩ := hcut
    cases t1
    · have hT := HT1.out
      simp only [Bool.false_eq, Bool.or_eq_false_iff, Bool.not_eq_false', beq_eq_false_iff_ne] at hT
      obtain ⟨hwp, hw0⟩ := hT
      have hwr : IntKind.i64.wrap (f.wid - k) = f.wid - k := by rw [IntKind.wrap_i64]; omega
      go_upto_region 2 with fail
      go_cut [4] from 24 to 30 (fun s4 wx => s4 = .int .i64 (f.wid - k) ∧ FB wx base Bf F f [] ∧ Keep base Bf w wx)
      case first =>
        go_region_with (go_at_call 50; refine (cnt_any _ s (by unfold maxLen; omega)).mono ?_; rintro e w1 ⟨⟨k', rfl, hk'⟩, hb1⟩; obtain rfl := Hk.out.unique hk'; have j13 := (hb1.cell (p := ⟨F, 13, none⟩) (by show F < _; simp; omega)).trans k13; have hb2 : Below w.heap.size w w1 := ⟨hb1.os, hb1.tape, hb1.output, hb1.size, hb1.block⟩; clear hk')
        all_goals
          go_wp2_with fail
          go_meet
        case rel =>
          refine ⟨by go_num, ?_, ?_⟩
          · exact h.below (by assumption)
          · exact Keep.of_below (Below.mono (show Below w.heap.size w _ from by assumption) hbs)
        case rel =>
          refine ⟨by go_num, ?_, ?_⟩
          · exact h.below (by assumption)
          · exact Keep.of_below (Below.mono (show Below w.heap.size w _ from by assumption) hbs)
      case rest =>
        obtain ⟨rfl, hF2, hK2⟩ := hcut
        rename World => w2
        clear k0 k1 k3 k13
        obtain ⟨j0, -, -, j3, -, -, -, -, -⟩ := hF2.cell
        have he : Hid (padS f.wid f.wp k = (f.wid - k).toNat) := by show _ = _; rw [padS, hwp, if_pos rfl]
        have hsl : s.data.toList.length = s.size := Array.length_toList
        cases hmi : f.mi
        · rw [hmi] at j3
          go_upto_region 5 with (go_at_call 47; refine (pad_any _ base Bf F f [] _ c HC hF2 (by simp; omega)).mono ?_; rintro e w3 ⟨rfl, hF3, hK3⟩; obtain ⟨l0, -⟩ := hF3.cell)
          go_wp2_with (go_at_call 49; refine (ws_any _ base Bf F f _ s hF3 (by simp; omega)).mono ?_; rintro e w4 ⟨rfl, hF4, hK4⟩)
          go_end0
          refine ⟨rfl, ?_, (hK2.trans hK3).trans hK4⟩
          rw [he.out, around, hmi]
          simpa using hF4
        · rw [hmi] at j3
          go_upto_region 7 with (go_at_call 49; refine (ws_any _ base Bf F f _ s hF2 (by simp; omega)).mono ?_; rintro e w3 ⟨rfl, hF3, hK3⟩)
          go_wp2_with (go_at_call 47; refine (pad_any _ base Bf F f _ _ c HC hF3 (by simp; omega)).mono ?_; rintro e w4 ⟨rfl, hF4, hK4⟩)
          go_end0
          refine ⟨rfl, ?_, (hK2.trans hK3).trans hK4⟩
          rw [he.out, around, hmi]
          simpa using hF4
    · have he : Hid (padS f.wid f.wp k = 0) := by
        show _ = _
        have hT := HT1.out
        rw [padS]
        cases hwp : f.wp
        · simp
        · rw [hwp] at hT
          have hw0 : f.wid = 0 := by simpa using hT
          rw [if_pos rfl, hw0]
          omega
      go_wp2_with (go_at_call 49; refine (ws_any _ base Bf F f [] s h (by simp; omega)).mono ?_; rintro e w3 ⟨rfl, hF3, hK3⟩)
      go_returns
      refine ⟨rfl, ?_, hK3⟩
      rw [he.out, around]
      cases f.mi <;> simpa using hF3

set_option maxHeartbeats 400000 in
theorem fmtS_any (w : World) (base Bf F : Nat) (f : Fl) (s : ByteArray) (k : Nat) (c : UInt8) (HC : Hid (c = (if f.ze then 48 else 32))) (h : FB w base Bf F f []) (hk : IsCnt (trunc s f.prec f.pp) k) (hs : s.size ≤ 65536) (hw1 : -65536 ≤ f.wid) (hw2 : f.wid ≤ 65536)
    (hp : f.pp = true → -65536 ≤ f.prec) (hp2 : f.prec ≤ 9223372036854775807) :
    Calls Eehg.prog 38 #[.pointer (some ⟨F, 0, none⟩), .string s] w fun e w' => e = .returned (.tuple #[]) ∧ FB w' base Bf F f (around (trunc s f.prec f.pp).data.toList (padS f.wid f.wp k) c (!f.mi)) ∧ Keep base Bf w w' := by
  obtain ⟨-, -, k2, -, -, -, -, -, k14⟩ := h.cell
  have hbs := h.hbs
  have ht := trunc_any w F f s k2 k14 hs hp hp2
  have hp3 : ∀ w', FB w' base Bf F f [] → _ := fun w' h' => padS_any w' base Bf F f (trunc s f.prec f.pp) k c HC h' hk (Nat.le_trans (trunc_le s f.prec f.pp) hs) hw1 hw2
  have Hp3 := hide hp3
  clear hp3 hp hk
  go_enter Eehg.func38, Eehg.ntmps38
  go_upto_region 1 with (go_at_call 37; refine ht.mono ?_; rintro e w1 ⟨rfl, hb1⟩)
  go_wp2_with (go_at_call 44; refine (Hp3.out w1 (h.below hb1)).mono ?_; rintro e w2 ⟨rfl, hF2, hK2⟩)
  go_end0
  exact ⟨rfl, hF2, (Keep.of_below (hb1.mono hbs)).trans hK2⟩

set_option maxHeartbeats 400000 in
theorem zfmtS_any (w : World) (base Bf F : Nat) (f : Fl) (s : ByteArray) (k : Nat) (c : UInt8) (HC : Hid (c = (if f.ze then 48 else 32))) (h : FB w base Bf F f []) (hk : IsCnt (trunc s f.prec f.pp) k) (hs : s.size ≤ 65536) (hw1 : -65536 ≤ f.wid) (hw2 : f.wid ≤ 65536)
    (hp : f.pp = true → -65536 ≤ f.prec) (hp2 : f.prec ≤ 9223372036854775807) :
    Calls Eehg.prog 21 #[.pointer (some ⟨F, 0, none⟩), .string s] w fun e w' => e = .returned (.tuple #[]) ∧ FB w' base Bf F f (around (trunc s f.prec f.pp).data.toList (padS f.wid f.wp k) c (!f.mi)) ∧ Keep base Bf w w' := by
  have ht := fmtS_any w base Bf F f s k c HC h hk hs hw1 hw2 hp hp2
  clear hp hk
  go_enter Eehg.func21, Eehg.ntmps21
  go_wp2_with (go_at_call 38; refine ht.mono ?_; rintro e w1 ⟨rfl, hF1, hK1⟩)
  go_end0
  exact ⟨rfl, hF1, hK1⟩

end Go.Proofs.YoeehwDoor
