/-
  zzEqual (15) and ZZbuf (23).
-/
import Derived.Test.YoeehwDoorApp
import Derived.BigQuiet
import Derived.Deep.QuietTactic
namespace Go.Proofs.YoeehwDoor
open Go.RowKit

/-- A byte slice that reads as xs: nil, or cells. -/
def BytesAt (w : World) (ao : Option Addr) (n : Nat) (xs : List UInt8) : Prop :=
  n = xs.length ∧ ∀ j, (h : j < xs.length) → ∃ g o, ao = some ⟨g, o, none⟩ ∧ w.cell? ⟨g, o + j, none⟩ = some (.int .u8 ((xs[j]'h).toNat : Int))

theorem BytesAt.of_own {w : World} {base n c : Nat} {ao : Option Addr} {xs : List UInt8} (h : w.ownsRow base 5 1 (.slice ao n c) n (bytesV xs)) : BytesAt w ao n xs := by
  refine ⟨own_len h, fun j hj => ?_⟩
  rcases h.2 with ⟨h', h0⟩ | ⟨g, cap, cur, h', _⟩
  · have := own_len h; omega
  · simp only [Value.slice.injEq] at h'
    obtain ⟨rfl, _, rfl⟩ := h'
    refine ⟨g, 0, rfl, ?_⟩
    have := h.cellAt j (by have := own_len h; omega)
    rw [Nat.zero_add, this, bytesV_get xs j hj]

set_option maxHeartbeats 400000 in
theorem equal_same (w : World) (ao bo : Option Addr) (n m ca cb : Nat) (xs : List UInt8) (ha : BytesAt w ao n xs) (hb : BytesAt w bo m xs) (hl : xs.length ≤ 1000000000) :
    Calls Eehg.prog 15 #[.slice ao n ca, .slice bo m cb] w fun e w' => e = .returned (.bool true) ∧ ∃ k, w' = w.drewN k := by
  obtain ⟨hn, Ha⟩ := ha
  obtain ⟨hm, Hb⟩ := hb
  have HA := hide Ha
  have HB := hide Hb
  clear Ha Hb
  obtain rfl : m = n := by omega
  have HN := hide hn
  rw [← hn] at hl
  clear hn hm
  go_enter Eehg.func15, Eehg.ntmps15
  go_wp2_with fail
  go_loopw [5] (fun i wr => ∃ k : Nat, k ≤ m ∧ i = .int .i64 k ∧ ∃ q, wr = w.drewN q) (fun i _ => m - (intOf i).toNat)
  case atStart => exact ⟨0, by omega, rfl, 0, rfl⟩
  case round =>
    obtain ⟨k, hk, rfl, q, rfl⟩ := hrel
    by_cases hlt : k < m
    · obtain ⟨g, o, rfl, hca⟩ := HA.out k (by have := HN.out; omega)
      obtain ⟨g', o', rfl, hcb⟩ := HB.out k (by have := HN.out; omega)
      go_wp2_with fail
      go_quiet (fail)
      go_wp2_with fail
      go_roundw
      case rel => exact ⟨k + 1, by omega, by go_num, _, rfl⟩
      case measure => simp [intOf]; omega
    · go_wp2_with fail
      go_ret
      exact ⟨rfl, q, rfl⟩

set_option maxHeartbeats 400000 in
theorem buf_any (w : World) (base Bf F : Nat) (f : Fl) (xs : List UInt8) (h : FB w base Bf F f xs) :
    Calls Eehg.prog 23 #[.pointer (some ⟨F, 0, none⟩)] w fun e w' => (∃ ao n c, e = .returned (.slice ao n c) ∧ w.ownsRow base 5 1 (.slice ao n c) n (bytesV xs)) ∧ w' = w := by
  obtain ⟨k0, -⟩ := h.cell
  obtain ⟨v, hv, hown⟩ := h.hB
  obtain ⟨ao, c, rfl⟩ : ∃ ao c, v = .slice ao xs.length c := by rcases hown.2 with ⟨rfl, h0⟩ | ⟨g, cap, cur, rfl, _⟩; rw [h0]; exact ⟨_, _, rfl⟩; exact ⟨_, _, rfl⟩
  have kB := cell_of_one hv
  go_enter Eehg.func23, Eehg.ntmps23
  go_wp2_with fail
  go_ret
  exact ⟨⟨_, _, _, rfl, hown⟩, rfl⟩

/-- What is owned is owned still behind whatever turned no old block. -/
theorem own_below {w w' : World} {base n : Nat} {v : Value} {xs : List Value} (h : w.ownsRow base 5 1 v n xs) (hb : Below w.heap.size w w') : w'.ownsRow base 5 1 v n xs := by
  obtain ⟨h1, h2⟩ := h
  refine ⟨h1, ?_⟩
  rcases h2 with h2 | ⟨g, cap, cur, hv, hg, hh, r⟩
  · exact .inl h2
  · exact .inr ⟨g, cap, cur, hv, hg, (hb.block g (lt_of_block hh)).trans hh, r⟩

theorem FB.below {w w' : World} {base Bf F : Nat} {f : Fl} {xs : List UInt8} (h : FB w base Bf F f xs) (hb : Below w.heap.size w w') : FB w' base Bf F f xs := by
  have hbs := h.hbs
  have h1 := h.hBb
  obtain ⟨v, hv, hown⟩ := h.hB
  exact h.next (Keep.of_below (hb.mono hbs)) ⟨v, (hb.block Bf (by omega)).trans hv, own_below hown hb⟩

/-- ZZnewFormatter: the formatter stands. -/
theorem new_fb (wid prec : Int) (wp pp mi pl sh sp ze : Bool) (w : World) (hw : 2 ≤ w.heap.size) (hmax : w.cell? ⟨0, 0, none⟩ = some (.int .i64 2147483647)) :
    Calls Eehg.prog 13 #[.int .i64 wid, .bool wp, .int .i64 prec, .bool pp, .bool mi, .bool pl, .bool sh, .bool sp, .bool ze] w fun e w' => e = .returned (.pointer (some ⟨w.heap.size + 1, 0, none⟩)) ∧
      FB w' (w.heap.size + 2) w.heap.size (w.heap.size + 1) ⟨wid, prec, wp, pp, mi, sh, sp, ze⟩ [] ∧ w'.heap[w.heap.size]? = some (.cells #[.slice none 0 0] 45 (0, 0)) ∧ Below w.heap.size w w' ∧ w'.heap.size = w.heap.size + 2 := by
  refine (new_any wid prec wp pp mi pl sh sp ze w).mono ?_
  rintro e w' ⟨rfl, cs, rfl, hfc⟩
  refine ⟨rfl, FB.new hw hfc hmax, ?_, ((Below.refl _ _).alloc (Nat.le_refl _) _).alloc (by simp) _, by simp⟩
  rw [Below.heap_alloc _ _ _ (by simp), heap_alloc_new]

end Go.Proofs.YoeehwDoor
