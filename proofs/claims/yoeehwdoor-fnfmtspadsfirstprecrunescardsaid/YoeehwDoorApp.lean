/-
  append of bytes onto a row that the call owns, at this program: the kit's laws at the element type of fmtbuf and []byte.
-/
import Derived.Test.YoeehwDoorPad
import Derived.Deep.AppendLies
import Derived.Deep.RegionLaw
namespace Go.Proofs.YoeehwDoor
open Go.RowKit

theorem hide {p : Prop} (h : p) : Hid p := h

theorem own_len {w : World} {base n : Nat} {v : Value} {xs : List UInt8} (h : w.ownsRow base 5 1 v n (bytesV xs)) : n = xs.length := by
  have := h.1
  rw [bytesV_length] at this
  omega

theorem below_of_grown {w w' : World} {base : Nat} {v : Value} {n : Nat} {xs : List Value} (h : w.ownsRow base 5 1 v n xs) (hb : base ≤ w.heap.size) (hg : w.grownBy w' v.ownBlock) : Below base w w' :=
  (Below.refl _ _).grown hg hb (fun k hk => (h.lt k hk).1)

section
variable {w : World} {ops : Array Oper} {rest : List Oper} {o : Oper} {a : Act} {Q : Exit → Act → World → Prop}

/-- At a plain region's list. -/
theorem wpList_app (hgd : o.guard = none) (s x : Operand) (t : TypeId) (ho : o.op = .call { callee := .builtin .append, args := #[s, x], argTypes := #[t, t] }) (ht : Eehg.prog.underlying t = some (.slice 5))
    (base : Nat) (v : Value) (n : Nat) (xs : List UInt8) (hs : a.eval s = v) (hown : w.ownsRow base 5 1 v n (bytesV xs))
    (ad : Addr) (m c : Nat) (ys : List UInt8) (hx : a.eval x = .slice (some ad) m c) (hl : ys.length = m) (hnews : ∀ j u, (bytesV ys)[j]? = some u → w.cell? (ad.add j) = some u)
    (hm : 0 < m) (hb : xs.length + m ≤ 1000000000) (hbase : base ≤ w.heap.size)
    (h : ∀ g cap n' w', w'.ownsRow base 5 1 (.slice (some ⟨g, 0, none⟩) n' cap) n' (bytesV (xs ++ ys)) → Below base w w' → wpList Eehg.prog ops Q rest (a.put o.dst (.slice (some ⟨g, 0, none⟩) n' cap)) w') : wpList Eehg.prog ops Q (o :: rest) a w := by
  obtain ⟨i5, hi, hz0, hz1, hz2⟩ := info_parts info5
  have hn := own_len hown
  refine wpList_append_lies w hgd s x t ho base 5 i5 (.int .u8 0) 1 1 ht hi hz0 hz1 hz2 rfl (by decide) v n (bytesV xs) hs hown ad m c (bytesV ys) hx (by rw [bytesV_length]; omega) hnews (bytesV_one ys) hm (by unfold maxLen; omega) (by omega) hbase _ rfl ?_
  intro g cap w' h1 h2 _ _
  exact h g cap (n + m) w' (by rw [bytesV_append]; exact h1) (below_of_grown hown hbase h2)

/-- At a step of a region that draws its order. -/
theorem step_app {K : Act → World → Prop} {E : Prop} (hgd : o.guard = none) (s x : Operand) (t : TypeId) (ho : o.op = .call { callee := .builtin .append, args := #[s, x], argTypes := #[t, t] }) (ht : Eehg.prog.underlying t = some (.slice 5))
    (base : Nat) (v : Value) (n : Nat) (xs : List UInt8) (hs : a.eval s = v) (hown : w.ownsRow base 5 1 v n (bytesV xs))
    (ad : Addr) (m c : Nat) (ys : List UInt8) (hx : a.eval x = .slice (some ad) m c) (hl : ys.length = m) (hnews : ∀ j u, (bytesV ys)[j]? = some u → w.cell? (ad.add j) = some u)
    (hm : 0 < m) (hb : xs.length + m ≤ 1000000000) (hbase : base ≤ w.heap.size)
    (h : ∀ g cap n' w', w'.ownsRow base 5 1 (.slice (some ⟨g, 0, none⟩) n' cap) n' (bytesV (xs ++ ys)) → Below base w w' → K (a.put o.dst (.slice (some ⟨g, 0, none⟩) n' cap)) w') :
    if Region.wanted o (yielded ops a.tmps) = true then Oper.wp Eehg.prog o a w K Q else E := by
  obtain ⟨i5, hi, hz0, hz1, hz2⟩ := info_parts info5
  have hn := own_len hown
  refine step_append_lies w hgd s x t ho base 5 i5 (.int .u8 0) 1 1 ht hi hz0 hz1 hz2 rfl (by decide) v n (bytesV xs) hs hown ad m c (bytesV ys) hx (by rw [bytesV_length]; omega) hnews (bytesV_one ys) hm (by unfold maxLen; omega) (by omega) hbase _ rfl ?_
  intro g cap w' h1 h2 _ _
  exact h g cap (n + m) w' (by rw [bytesV_append]; exact h1) (below_of_grown hown hbase h2)
end

/-- The bytes of a literal that was just laid. -/
theorem news1 (w : World) (a : UInt8) (t : TypeId) : ∀ j u, (bytesV [a])[j]? = some u → (w.alloc (.cells #[.int .u8 (a.toNat : Int)] t)).cell? ((⟨w.heap.size, 0, none⟩ : Addr).add j) = some u :=
  World.news_of_block (heap_alloc_new w _)
theorem news2 (w : World) (a b : UInt8) (t : TypeId) : ∀ j u, (bytesV [a, b])[j]? = some u → (w.alloc (.cells #[.int .u8 (a.toNat : Int), .int .u8 (b.toNat : Int)] t)).cell? ((⟨w.heap.size, 0, none⟩ : Addr).add j) = some u :=
  World.news_of_block (heap_alloc_new w _)

end Go.Proofs.YoeehwDoor
