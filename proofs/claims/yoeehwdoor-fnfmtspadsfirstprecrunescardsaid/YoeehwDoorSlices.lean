/-
  zzPadByte (29), zzClone (12), zzAround (30): the model's helpers on byte slices.
-/
import Derived.Test.YoeehwDoorEq
import Derived.Laws.AppendOwnNone
import Derived.Deep.LoopGhost
namespace Go.Proofs.YoeehwDoor
open Go.RowKit

theorem slice_shape5 {w : World} {base n : Nat} {v : Value} {xs : List Value} (h : w.ownsRow base 5 1 v n xs) : ∃ ao c, v = .slice ao n c := by
  rcases h.2 with ⟨rfl, rfl⟩ | ⟨g, cap, cur, rfl, _⟩ <;> exact ⟨_, _, rfl⟩

/-- 'append(out, body...)': whatever the source. -/
theorem wpList_app_any {w : World} {ops : Array Oper} {rest : List Oper} {o : Oper} {a : Act} {Q : Exit → Act → World → Prop} (hgd : o.guard = none) (s x : Operand) (t : TypeId) (ho : o.op = .call { callee := .builtin .append, args := #[s, x], argTypes := #[t, t] }) (ht : Eehg.prog.underlying t = some (.slice 5))
    (base : Nat) (v : Value) (n : Nat) (xs : List UInt8) (hs : a.eval s = v) (hown : w.ownsRow base 5 1 v n (bytesV xs))
    (ao : Option Addr) (m c : Nat) (ys : List UInt8) (hx : a.eval x = .slice ao m c) (hnil : ao = none → c = 0) (hy : BytesAt w ao m ys)
    (hb : xs.length + m ≤ 1000000000) (hbase : base ≤ w.heap.size)
    (h : ∀ ao' n' c' w', w'.ownsRow base 5 1 (.slice ao' n' c') n' (bytesV (xs ++ ys)) → Below base w w' → wpList Eehg.prog ops Q rest (a.put o.dst (.slice ao' n' c')) w') : wpList Eehg.prog ops Q (o :: rest) a w := by
  obtain ⟨i5, hi, hz0, hz1, hz2⟩ := info_parts info5
  have hn := own_len hown
  obtain ⟨hm, hc⟩ := hy
  cases ao with
  | none =>
    obtain rfl := hnil rfl
    have hm0 : ys.length = 0 := by
      rcases Nat.eq_zero_or_pos ys.length with h0 | h0
      · exact h0
      · obtain ⟨g, o', e, _⟩ := hc 0 h0
        cases e
    obtain rfl : m = 0 := by omega
    obtain rfl : ys = [] := List.eq_nil_of_length_eq_zero hm0
    refine wpList_append_own_none hgd s x t ho base 5 i5 1 ht hi v n (bytesV xs) hs hown hx ?_
    obtain ⟨ao', c', rfl⟩ := slice_shape5 hown
    exact h ao' n c' w (by rw [List.append_nil]; exact hown) (Below.refl _ _)
  | some ad =>
    refine wpList_append_own w hgd s x t ho base 5 i5 (.int .u8 0) 1 1 ht hi hz0 hz1 hz2 rfl (by decide) v n (bytesV xs) hs hown ad m c (bytesV ys) hx (by rw [bytesV_length]; omega) ?_ (bytesV_one ys) (by unfold maxLen; omega) (by omega) hbase ?_
    · intro j u hu
      have hj : j < ys.length := by
        have := (List.getElem?_eq_some_iff.1 hu).1
        rwa [bytesV_length] at this
      obtain ⟨g, o', e, hcell⟩ := hc j hj
      cases e
      rw [bytesV_get ys j hj] at hu
      rw [Addr.add_lit, hcell]
      exact hu
    · intro v' w' h1 h2 _
      obtain ⟨ao', c', rfl⟩ := slice_shape5 h1
      exact h ao' (n + m) c' w' (by rw [bytesV_append]; exact h1) (below_of_grown hown hbase h2)

set_option maxHeartbeats 400000 in
theorem padByte_any (ze : Bool) (w : World) : Calls Eehg.prog 29 #[.bool ze] w fun e w' => (∃ c : UInt8, Hid (c = (if ze then 48 else 32)) ∧ e = .returned (.int .u8 (c.toNat : Int))) ∧ w = w' := by
  cases ze
  · go_enter Eehg.func29, Eehg.ntmps29
    go_wp2
    go_ret
    exact ⟨⟨32, rfl, rfl⟩, rfl⟩
  · go_enter Eehg.func29, Eehg.ntmps29
    go_wp2
    go_ret
    exact ⟨⟨48, rfl, rfl⟩, rfl⟩

/-- What is owned reads so still behind whatever turned no old block. -/
theorem BytesAt.below {w w' : World} {ao : Option Addr} {n : Nat} {xs : List UInt8} (h : BytesAt w ao n xs) (hb : Below w.heap.size w w') : BytesAt w' ao n xs := by
  refine ⟨h.1, fun j hj => ?_⟩
  obtain ⟨g, o, e, hc⟩ := h.2 j hj
  exact ⟨g, o, e, (hb.cell (World.block_lt_of_cell? w _ hc)).trans hc⟩

set_option maxHeartbeats 1000000 in
theorem around_any (w : World) (ao : Option Addr) (n cp k : Nat) (c : UInt8) (left : Bool) (xs : List UInt8) (hnil : ao = none → cp = 0) (hx : BytesAt w ao n xs) (hb : n + k ≤ 10000000) :
    Calls Eehg.prog 30 #[.slice ao n cp, .int .i64 k, .int .u8 (c.toNat : Int), .bool left] w fun e w' => ∃ ao' n' c', e = .returned (.slice ao' n' c') ∧ w'.ownsRow w.heap.size 5 1 (.slice ao' n' c') n' (bytesV (if left then List.replicate k c ++ xs else xs ++ List.replicate k c)) ∧ Below w.heap.size w w' := by
  obtain ⟨i5, hi, hz0, hz1, hz2⟩ := info_parts info5
  have Hx := hide hx
  have hN := hide hx.1
  have Hnil := hide hnil
  clear hx hnil
  go_enter Eehg.func30, Eehg.ntmps30
  go_upto_if 17 with (at_make; refine wpList_make_own _ rfl _ _ 22 rfl w.heap.size 5 i5 (.int .u8 0) 1 Eehg.underlying22 hi hz0 hz1 _ _ _ (n + k) rfl rfl (by omega) (by rw [hz2]; omega) (by unfold maxLen; omega) (Nat.le_refl _) ?_; intro w1 hown1 hg1)
  have hb1 : Below w.heap.size w w1 := (Below.refl _ _).grown hg1 (Nat.le_refl _) (by intro j hj; cases hj)
  clear hg1
  go_cut [9] from 18 to 26 (fun s9 wx => ∃ ao' n' c', s9 = .slice ao' n' c' ∧ wx.ownsRow w.heap.size 5 1 (.slice ao' n' c') n' (bytesV (if left then List.replicate k c else [])) ∧ Below w.heap.size w wx)
  case first =>
    cases left
    · go_wp2_with fail
      go_meet
      case rel => exact ⟨_, _, _, rfl, by simpa [bytesV] using hown1, hb1⟩
    · go_wp2_with fail
      go_loopw [9, 10] (fun v i wr => ∃ j : Nat, j ≤ k ∧ i = .int .i64 j ∧ ∃ ao' n' c', v = .slice ao' n' c' ∧ wr.ownsRow w.heap.size 5 1 (.slice ao' n' c') n' (bytesV (List.replicate j c)) ∧ Below w.heap.size w wr) (fun _ i _ => k - (intOf i).toNat)
      case atStart => exact ⟨0, Nat.zero_le _, rfl, _, _, _, rfl, by simpa [bytesV] using hown1, hb1⟩
      case round =>
        obtain ⟨j, hj, rfl, a2, n2, c2, rfl, hown2, hb2⟩ := hrel
        have hs2 := hb2.size
        by_cases hlt : j < k
        · go_wp2_with (at_builtin; refine wpList_app rfl (.tmp 23) (.tmp 25) 22 rfl Eehg.underlying22 w.heap.size _ _ _ (by rfl) (hown2.alloc _) _ 1 1 [c] (by rfl) rfl (news1 wr c 5) (by decide) (by simp; omega) (by simp; omega) ?_; intro g3 cap3 n3 w3 hown3 hbl3)
          go_roundw
          case rel => exact ⟨j + 1, by omega, by go_num, _, _, _, rfl, by rw [List.replicate_succ']; exact hown3, (hb2.alloc hs2 _).trans hbl3⟩
          case measure => simp [intOf]; omega
        · obtain rfl : j = k := by omega
          go_wp2_with fail
          go_meet
          case rel => exact ⟨_, _, _, rfl, by simpa using hown2, hb2⟩
  case rest =>
    obtain ⟨a4, n4, c4, rfl, hown4, hb4⟩ := hcut
    rename World => w4
    have hs4 := hb4.size
    have hl4 : (if left then List.replicate k c else []).length ≤ k := by cases left <;> simp
    go_upto_if 31 with (at_builtin; refine wpList_app_any rfl (.tmp 27) (.tmp 28) 22 rfl Eehg.underlying22 w.heap.size _ _ _ (by rfl) hown4 _ _ _ xs (by rfl) Hnil.out (Hx.out.below hb4) (by omega) hs4 ?_; intro a5 n5 c5 w5 hown5 hbl5)
    have hb5 := hb4.trans hbl5
    cases left
    · go_wp2_with fail
      go_loopg [9, 11] k (fun gk v i wr => ∃ j : Nat, j + gk = k ∧ i = .int .i64 j ∧ ∃ ao' n' c', v = .slice ao' n' c' ∧ wr.ownsRow w.heap.size 5 1 (.slice ao' n' c') n' (bytesV (xs ++ List.replicate j c)) ∧ Below w.heap.size w wr)
      case atStart => exact ⟨0, by omega, rfl, _, _, _, rfl, by simpa using hown5, hb5⟩
      case round =>
        obtain ⟨j, hj, rfl, a2, n2, c2, rfl, hown2, hb2⟩ := hrel
        have hs2 := hb2.size
        by_cases hlt : j < k
        · go_wp2_with (at_builtin; refine wpList_app rfl (.tmp 37) (.tmp 39) 22 rfl Eehg.underlying22 w.heap.size _ _ _ (by rfl) (hown2.alloc _) _ 1 1 [c] (by rfl) rfl (news1 wr c 5) (by decide) (by have := hN.out; simp; omega) (by simp; omega) ?_; intro g3 cap3 n3 w3 hown3 hbl3)
          go_roundg (gk - 1)
          case rel => exact ⟨j + 1, by omega, by go_num, _, _, _, rfl, by rw [List.replicate_succ', ← List.append_assoc]; exact hown3, (hb2.alloc hs2 _).trans hbl3⟩
          case measure => omega
        · obtain rfl : j = k := by omega
          go_wp2_with fail
          go_ret
          exact ⟨_, _, _, rfl, by simpa using hown2, hb2⟩
    · go_wp2_with fail
      go_ret
      exact ⟨_, _, _, rfl, by simpa using hown5, hb5⟩

/-- zzClone's row after k rounds. -/
def clonedTo (xs : List UInt8) (k : Nat) : List Value := bytesV (xs.take k) ++ List.replicate (xs.length - k) (.int .u8 0)

theorem cloned_len (xs : List UInt8) (k : Nat) (h : k ≤ xs.length) : (clonedTo xs k).length = xs.length := by
  simp only [clonedTo, List.length_append, bytesV_length, List.length_take, List.length_replicate]
  omega

theorem cloned_step (xs : List UInt8) (k : Nat) (h : k < xs.length) : (clonedTo xs k).set k (.int .u8 (xs[k].toNat : Int)) = clonedTo xs (k + 1) := by
  have hl : (bytesV (xs.take k)).length = k := by rw [bytesV_length, List.length_take]; omega
  have e1 : xs.length - k = (xs.length - (k + 1)) + 1 := by omega
  unfold clonedTo
  rw [List.set_append_right _ _ (by omega), hl, Nat.sub_self, e1, List.replicate_succ, List.set_cons_zero]
  rw [List.take_succ_eq_append_getElem h, bytesV_append, List.append_assoc]
  rfl

set_option maxHeartbeats 1000000 in
theorem clone_any (w : World) (ao : Option Addr) (n cp : Nat) (xs : List UInt8) (hnil : ao = none → cp = 0) (hx : BytesAt w ao n xs) (hb : n ≤ 10000000) :
    Calls Eehg.prog 12 #[.slice ao n cp] w fun e w' => ∃ ao' c', e = .returned (.slice ao' n c') ∧ ao'.isNone = ao.isNone ∧ (ao' = none → c' = 0) ∧ w'.ownsRow w.heap.size 5 1 (.slice ao' n c') n (bytesV xs) ∧ Below w.heap.size w w' := by
  obtain ⟨i5, hi, hz0, hz1, hz2⟩ := info_parts info5
  have q22 : ∀ (w : World) (a : Option Addr) (n c : Nat), (binOp .eql 22 (.slice a n c) (.slice none 0 0)).run Eehg.prog w = .ok (.bool a.isNone) w := fun w a n c => Lib.run_eql_slice_nil w _ _ a n c 0 0 Eehg.underlying22
  have Hx := hide hx.2
  have HN := hide hx.1
  clear hx
  cases ao with
  | none =>
    have hn0 : xs = [] := by
      cases xs with
      | nil => rfl
      | cons x xs => obtain ⟨g, o, e, _⟩ := Hx.out 0 (by simp); cases e
    obtain rfl : n = 0 := by rw [HN.out, hn0]; rfl
    subst hn0
    clear Hx HN hnil
    go_enter Eehg.func12, Eehg.ntmps12
    go_wp2_with fail
    go_ret
    exact ⟨none, 0, rfl, rfl, fun _ => rfl, World.ownsRow_nil _ _ _ _, Below.refl _ _⟩
  | some ad =>
    clear hnil
    go_enter Eehg.func12, Eehg.ntmps12
    go_wp2_with (at_make; refine wpList_make_full _ rfl _ _ 22 rfl w.heap.size 5 i5 (.int .u8 0) 1 Eehg.underlying22 hi hz0 hz1 _ _ _ _ n rfl rfl (by omega) (by omega) (by rw [hz2]; omega) (by unfold maxLen; omega) (Nat.le_refl _) ?_; intro w1 hown1 hg1)
    have hb1 : Below w.heap.size w w1 := (Below.refl _ _).grown hg1 (Nat.le_refl _) (by intro j hj; cases hj)
    go_loopw [4] (fun i wr => ∃ j : Nat, j ≤ n ∧ i = .int .i64 j ∧ wr.ownsRow w.heap.size 5 1 (.slice (some ⟨w.heap.size, 0, none⟩) n n) n (clonedTo xs j) ∧ Below w.heap.size w wr) (fun i _ => n - (intOf i).toNat)
    case atStart =>
      refine ⟨0, Nat.zero_le _, rfl, ?_, hb1⟩
      have e : clonedTo xs 0 = List.replicate n (.int .u8 0) := by simp [clonedTo, bytesV, HN.out]
      have h2 := hown1
      rw [Nat.mul_one] at h2
      rw [e, ← toList_madeCells_one]
      exact h2
    case round =>
      obtain ⟨j, hj, rfl, hown2, hb2⟩ := hrel
      clear hown1 hg1 hb1
      by_cases hlt : j < n
      · have hjx : j < xs.length := by have := HN.out; omega
        obtain ⟨g, o, e, hc⟩ := Hx.out j hjx
        cases e
        have hcr := (hb2.cell (World.block_lt_of_cell? w _ hc)).trans hc
        have hcell := hown2.cellAt j (by omega)
        rw [List.getElem?_eq_getElem (by rw [cloned_len xs j (by omega)]; exact hjx)] at hcell
        have hfr := hown2.frozenAt j
        have hst := hown2.stored j (.int .u8 (xs[j].toNat : Int))
        rw [cloned_step xs j hjx] at hst
        have HS := hide hst
        clear hst hc
        go_wp2_with fail
        go_roundw
        case rel => exact ⟨j + 1, by omega, by go_num, HS.out.1, hb2.grown HS.out.2 hb2.size (by intro k hk; cases hk; exact Nat.le_refl _)⟩
        case measure => simp [intOf]; omega
      · obtain rfl : j = n := by omega
        go_wp2_with fail
        go_ret
        refine ⟨_, _, rfl, rfl, fun h => (by cases h), ?_, hb2⟩
        have e : clonedTo xs j = bytesV xs := by
          have := HN.out
          rw [clonedTo, List.take_of_length_le (by omega), show xs.length - j = 0 by omega, List.replicate_zero, List.append_nil]
        rw [← e]
        exact hown2

end Go.Proofs.YoeehwDoor
