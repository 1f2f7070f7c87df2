/-
  writePadding (function 47): whatever the number: the buffer's bytes, and that many pad bytes behind them.
-/
import Derived.Test.YoeehwDoorBase
import Derived.Laws.CopyOwn
import Derived.Deep.DeepCutAuto
import Derived.BigRegion
namespace Go.Proofs.YoeehwDoor
open Go.RowKit

theorem info5 : (Eehg.prog.info? 5).map (fun i => (i.zero, i.size, i.bytes)) = some (some (.int .u8 0), 1, 1) := by kernel_rfl
theorem size5 : (Eehg.prog.info? 5).map (·.size) = some 1 := by kernel_rfl

/-- A row that was just made: its block. -/
theorem row_of_made {w : World} {base g n : Nat} {xs : List Value} (h : w.ownsRow base 5 1 (.slice (some ⟨g, 0, none⟩) n n) n xs) : w.heap[g]? = some (.cells xs.toArray 5 (0, 0)) := by
  rcases h.2 with ⟨h', _⟩ | ⟨g', cap', cur, h', _, hg, _, _, hs, htake⟩
  · simp at h'
  · simp only [Value.slice.injEq, Option.some.injEq, Addr.mk.injEq, and_true, true_and] at h'
    obtain ⟨rfl, rfl⟩ := h'
    rw [List.take_of_length_le (by rw [Array.length_toList, hs]; exact Nat.le_refl _)] at htake
    rw [hg, ← htake]

theorem splice_len (cur : List Value) (m k : Nat) (c : Value) (h : m + k ≤ cur.length) : (splice cur m (List.replicate k c)).length = cur.length :=
  length_splice _ _ _ (by simpa using h)

/-- One byte more of the padding. -/
theorem splice_step (cur : List Value) (m k : Nat) (c : Value) (h : m + k < cur.length) :
    (splice cur m (List.replicate k c)).toArray.setIfInBounds (m + k) c = (splice cur m (List.replicate (k + 1) c)).toArray := by
  apply Array.ext'
  simp only [Array.toList_setIfInBounds]
  apply List.ext_getElem?
  intro j
  have e1 : min m cur.length = m := by omega
  simp only [splice, List.getElem?_set, List.length_append, List.getElem?_append, List.length_take, List.length_replicate, List.length_drop, List.getElem?_replicate, List.getElem?_drop, e1]
  rcases Nat.lt_trichotomy j (m + k) with hj | hj | hj
  · rw [if_neg (by omega)]
    by_cases hjm : j < m
    · rw [if_pos hjm, if_pos hjm]
    · rw [if_neg hjm, if_neg hjm, if_pos (by omega), if_pos (by omega), if_pos (by omega), if_pos (by omega)]
  · subst hj
    rw [if_pos rfl, if_pos (by omega), if_neg (by omega), if_pos (by omega), if_pos (by omega)]
  · rw [if_neg (by omega), if_neg (by omega), if_neg (by omega), if_neg (by omega), if_neg (by omega)]
    congr 1
    omega

/-- All of the padding. -/
theorem splice_take (cur : List Value) (m k : Nat) (xs : List UInt8) (c : UInt8) (h : m + k ≤ cur.length) (ht : cur.take m = bytesV xs) :
    (splice cur m (List.replicate k (Value.int .u8 (c.toNat : Int)))).take (m + k) = bytesV (xs ++ List.replicate k c) := by
  have e : bytesV (List.replicate k c) = List.replicate k (Value.int .u8 (c.toNat : Int)) := by simp [bytesV]
  rw [bytesV_append, e, splice, ht]
  have hl : m + k = (bytesV xs ++ List.replicate k (Value.int .u8 (c.toNat : Int))).length := by
    rw [← ht]; simp; omega
  rw [hl, ← List.append_assoc, List.take_left]

set_option maxHeartbeats 400000 in
theorem pad_pos (w : World) (base Bf F : Nat) (f : Fl) (xs : List UInt8) (c : UInt8) (HC : Hid (c = (if f.ze then 48 else 32))) (n m cap : Nat) (ao : Option Addr) (h : FB w base Bf F f xs) (hm : xs.length = m)
    (hv : w.heap[Bf]? = some (.cells #[.slice ao m cap] 45 (0, 0))) (hn : 0 < n) (hmc : m ≤ cap) (hb : m + n ≤ 10000000)
    (hz : ao = none → m = 0 ∧ cap = 0) (hc : ∀ ad, ao = some ad → ∀ j u, (bytesV xs)[j]? = some u → w.cell? (ad.add j) = some u) :
    Calls Eehg.prog 47 #[.pointer (some ⟨F, 0, none⟩), .int .i64 n] w fun e w' => e = .returned (.tuple #[]) ∧ FB w' base Bf F f (xs ++ List.replicate n c) ∧ Keep base Bf w w' := by
  obtain ⟨i5, hi, hz0, hz1, hz2⟩ := info_parts info5
  obtain ⟨k0, -, -, -, -, -, k7, -, -⟩ := h.cell
  have kb := cell_of_one hv
  have kmax := h.hmax
  have hbs := h.hbs
  have hFb := h.hFb
  have hBb := h.hBb
  have hne := h.hne
  go_enter Eehg.func47, Eehg.ntmps47
  go_upto_if 30 with fail
  go_cut [4] (fun s4 wx => ∃ (g L C : Nat) (cur : List Value), s4 = .slice (some ⟨g, 0, none⟩) L C ∧ base ≤ g ∧ wx.heap[g]? = some (.cells cur.toArray 5 (0, 0)) ∧ cur.length = C ∧ m + n ≤ C ∧ C ≤ maxLen ∧ cur.take m = bytesV xs ∧ Keep base Bf w wx ∧ wx.heap[Bf]? = some (.cells #[.slice ao m cap] 45 (0, 0)))
  case first =>
    go_wp2_with (at_make; refine wpList_make_full _ rfl _ _ 45 rfl base 5 i5 (.int .u8 0) 1 Eehg.underlying45 hi hz0 hz1 _ _ _ _ (cap * 2 + n) rfl rfl (by omega) (by omega) (by rw [hz2]; omega) (by unfold maxLen; omega) hbs ?_)
    · intro w1 hown hgr
      have hrow := row_of_made hown
      have hbl : Below w.heap.size w w1 := (Below.refl _ _).grown hgr (Nat.le_refl _) (by intro k hk; cases hk)
      have kF : w1.cell? ⟨F, 0, none⟩ = some (.pointer (some ⟨Bf, 0, none⟩)) := (hbl.cell (by show F < _; omega)).trans k0
      have kB : w1.cell? ⟨Bf, 0, none⟩ = some (.slice ao m cap) := (hbl.cell (by show Bf < _; omega)).trans kb
      go_wp2_with (with_reducible (refine wpList_copy_splice rfl (.tmp 37) (.tmp 43) 45 45 rfl 5 Eehg.underlying45 size5 (some ⟨w.heap.size, 0, none⟩) ao (cap * 2 + n) (cap * 2 + n) m cap ?hd ?hs w.heap.size 0 _ 5 hrow (bytesV xs) ?hn ?hpos ?hfit (bytesV_one xs) w.heap.size w hbl (Nat.le_refl _) ?hw))
      case hd => rfl
      case hs => rfl
      case hn => rw [bytesV_length, hm]; exact (Nat.min_eq_left (by omega)).symm
      case hpos =>
        intro hp
        rw [bytesV_length] at hp
        cases ao with
        | none => have := (hz rfl).1; omega
        | some ad => exact ⟨ad, rfl, fun j u hu => (hbl.cell (World.block_lt_of_cell? w _ (hc ad rfl j u hu))).trans (hc ad rfl j u hu)⟩
      case hfit => rw [bytesV_length, toList_madeCells_one, List.length_replicate]; omega
      case hw =>
        intro w2 hrow2 hbl2
        go_wp2_with fail
        go_meet
        case rel =>
          have hlen : (splice (madeCells #[Value.int IntKind.u8 0] (cap * 2 + n)).toList 0 (bytesV xs)).length = cap * 2 + n := by
            rw [length_splice _ _ _ (by rw [bytesV_length, toList_madeCells_one, List.length_replicate]; omega), toList_madeCells_one, List.length_replicate]
          refine ⟨w.heap.size, cap * 2 + n, cap * 2 + n, _, rfl, hbs, hrow2.out, hlen, by omega, by unfold maxLen; omega, ?_, Keep.of_below (hbl2.mono hbs), ?_⟩
          · rw [splice, List.take_zero, List.nil_append, ← hm, ← bytesV_length xs, List.take_left]
          · rw [hbl2.block Bf (by omega)]; exact hv
    · have hcap : m + n ≤ cap := by omega
      obtain ⟨v, hv1, hown⟩ := h.hB
      go_meet
      case rel =>
        obtain rfl : v = .slice ao m cap := by rw [hv] at hv1; simpa using hv1.symm
        rcases hown.2 with ⟨h', _⟩ | ⟨g, cap', cur, h', hbg, hg, _, hcm, hcs, htake⟩
        · simp only [Value.slice.injEq] at h'; omega
        · simp only [Value.slice.injEq] at h'
          obtain ⟨rfl, _, rfl⟩ := h'
          refine ⟨g, m, cap, cur.toList, rfl, hbg, by simpa using hg, by simpa using hcs, hcap, hcm, ?_, Keep.refl _ _ _, hv⟩
          rw [← htake, hm, Nat.mul_one]
  case rest =>
    obtain ⟨g, L, C, cur, rfl, hg, hrow, hcl, hmn, hC, htk, hkp, hbf⟩ := hcut
    have q0 : wc.cell? ⟨F, 0, none⟩ = some (.pointer (some ⟨Bf, 0, none⟩)) := (hkp.cell hFb hne).trans k0
    have q7 : wc.cell? ⟨F, 7, none⟩ = some (.bool f.ze) := (hkp.cell hFb hne).trans k7
    clear k0 k7 kb kmax
    unfold maxLen at hC
    go_upto_if 49 with fail
    go_cut [7] (fun s7 wx => wx = wc ∧ s7 = .int .u8 (c.toNat : Int))
    case first =>
      cases hze : f.ze
      · rw [hze] at q7
        go_wp2_with fail
        go_meet
        case rel => exact ⟨rfl, by rw [HC.out, hze]; rfl⟩
      · rw [hze] at q7
        go_wp2_with fail
        go_meet
        case rel => exact ⟨rfl, by rw [HC.out, hze]; rfl⟩
    case rest =>
      obtain ⟨rfl, rfl⟩ := hcut
      go_wp2_with fail
      go_loopw [56] (fun i wr => ∃ k : Nat, k ≤ n ∧ i = .int .i64 k ∧ Hid (wr.heap[g]? = some (.cells (splice cur m (List.replicate k (Value.int .u8 (c.toNat : Int)))).toArray 5 (0, 0))) ∧ Hid (∀ b, b ≠ g → wr.heap[b]? = wc.heap[b]?) ∧ Keep base Bf w wr) (fun i _ => n - (intOf i).toNat)
      case atStart => exact ⟨0, Nat.zero_le _, rfl, by simpa [splice, Hid] using hrow, fun _ _ => rfl, hkp⟩
      case round =>
        obtain ⟨k, hk, rfl, hr, hoth, hkk⟩ := hrel
        by_cases hlt : k < n
        · have hfz := frozen_of_row wr g (m + k) _ 5 hr.out
          have hlen := splice_len cur m k (Value.int .u8 (c.toNat : Int)) (by omega)
          obtain ⟨u, hcell⟩ : ∃ u, wr.cell? ⟨g, m + k, none⟩ = some u := by
            rw [cell_of_row wr g (m + k) _ 5 (0, 0) hr.out]
            exact ⟨_, Array.getElem?_eq_getElem (by simp only [List.size_toArray]; omega)⟩
          clear hlen
          go_wp2_with fail
          go_roundw
          case rel =>
            refine ⟨k + 1, by omega, by go_num, ?_, ?_, ?_⟩
            · show _ = _
              rw [heap_setCell_same wr g (m + k) _ 5 _ hr.out, splice_step _ _ _ _ (by omega)]
            · intro b hb
              rw [Below.heap_setCell _ _ _ _ hb]
              exact hoth.out b hb
            · exact hkk.trans (Keep.of_below ((Below.refl _ _).setCell hg _))
          case measure => simp [intOf]; omega
        · obtain rfl : k = n := by omega
          have r0 : wr.cell? ⟨F, 0, none⟩ = some (.pointer (some ⟨Bf, 0, none⟩)) := by rw [World.cell?_of_block (w := wc) (hoth.out F (by omega))]; exact q0
          have hbf2 := (hoth.out Bf (by omega)).trans hbf
          have rB := cell_of_one hbf2
          have rBf := free_of_one hbf2
          go_wp2_with fail
          go_region
          go_end0
          have hk2 := (hkk.buf 0 (.slice (some ⟨g, 0, none⟩) (m + k) C)).drew
          refine ⟨rfl, h.next hk2 ⟨_, one_setCell hbf2, ?_⟩, hk2⟩
          refine ⟨by simp [bytesV_length], .inr ⟨g, C, (splice cur m (List.replicate k (Value.int .u8 (c.toNat : Int)))).toArray, ?_, hg, ?_, ?_, by unfold maxLen; omega, ?_, ?_⟩⟩
          · rw [List.length_append, List.length_replicate, hm]
          · show (wr.setCell ⟨Bf, 0, none⟩ _).heap[g]? = _
            rw [Below.heap_setCell _ _ _ _ (by show g ≠ Bf; omega)]
            exact hr.out
          · rw [List.length_append, List.length_replicate, hm]; exact hmn
          · rw [List.size_toArray, splice_len _ _ _ _ (by omega), hcl, Nat.mul_one]
          · rw [List.length_append, List.length_replicate, hm, Nat.mul_one]
            exact splice_take cur m k xs c (by omega) htk

set_option maxHeartbeats 400000 in
theorem pad_neg (w : World) (base Bf F : Nat) (f : Fl) (xs : List UInt8) (n : Int) (h : FB w base Bf F f xs) (hn : n ≤ 0) :
    Calls Eehg.prog 47 #[.pointer (some ⟨F, 0, none⟩), .int .i64 n] w fun e w' => e = .returned (.tuple #[]) ∧ FB w' base Bf F f xs ∧ Keep base Bf w w' := by
  go_enter Eehg.func47, Eehg.ntmps47
  go_wp2
  go_returns
  exact ⟨rfl, h, Keep.refl _ _ _⟩

/-- writePadding: whatever the number. -/
theorem pad_any (w : World) (base Bf F : Nat) (f : Fl) (xs : List UInt8) (n : Int) (c : UInt8) (HC : Hid (c = (if f.ze then 48 else 32))) (h : FB w base Bf F f xs) (hb : xs.length + n.toNat ≤ 10000000) :
    Calls Eehg.prog 47 #[.pointer (some ⟨F, 0, none⟩), .int .i64 n] w fun e w' => e = .returned (.tuple #[]) ∧ FB w' base Bf F f (xs ++ List.replicate n.toNat c) ∧ Keep base Bf w w' := by
  by_cases hn : n ≤ 0
  · rw [show n.toNat = 0 by omega]
    simpa using pad_neg w base Bf F f xs n h hn
  · obtain ⟨k, rfl⟩ := Int.eq_ofNat_of_zero_le (show 0 ≤ n by omega)
    rw [Int.toNat_natCast] at hb ⊢
    obtain ⟨v, hv, hown⟩ := h.hB
    rcases hown.2 with ⟨rfl, h0⟩ | ⟨g, cap, cur, rfl, hbg, hg, hnc, hcm, hcs, htake⟩
    · refine pad_pos w base Bf F f xs c HC k xs.length 0 none h rfl (by rw [h0]; exact hv) (by omega) (by omega) hb (fun _ => ⟨h0, rfl⟩) (fun _ e => by cases e)
    · refine pad_pos w base Bf F f xs c HC k xs.length cap (some ⟨g, 0, none⟩) h rfl hv (by omega) hnc hb (fun e => by cases e) ?_
      intro ad e
      cases e
      exact hown.cells (g := g) rfl

end Go.Proofs.YoeehwDoor
