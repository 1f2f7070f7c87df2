/-
  THE FORMATTER IN MEMORY: its block, its buffer, the frame of what a call of its methods may write; and the contract of ZZnewFormatter (with init and clearFlags walked in place).
-/
import Derived.Test.YoeehwDoorProg
import Derived.WalkKit
import Derived.WalkSpells
import Derived.WalkLawsBesides
import Derived.Handy
namespace Go.Proofs.YoeehwDoor
open Go.RowKit

/-- Bytes as cells. -/
def bytesV (xs : List UInt8) : List Value := xs.map fun c => Value.int .u8 (c.toNat : Int)
theorem bytesV_length (xs : List UInt8) : (bytesV xs).length = xs.length := by simp [bytesV]
theorem bytesV_append (xs ys : List UInt8) : bytesV (xs ++ ys) = bytesV xs ++ bytesV ys := by simp [bytesV]
theorem bytesV_get (xs : List UInt8) (j : Nat) (h : j < xs.length) : (bytesV xs)[j]? = some (.int .u8 ((xs[j]'h).toNat : Int)) := by
  simp [bytesV, h]
theorem bytesV_one (xs : List UInt8) : ∀ u ∈ bytesV xs, u.oneCell' = true := by
  intro u hu
  obtain ⟨c, _, rfl⟩ := List.mem_map.1 hu
  rfl

/-- The formatter's settings. -/
structure Fl where
  wid : Int
  prec : Int
  wp : Bool
  pp : Bool
  mi : Bool
  sh : Bool
  sp : Bool
  ze : Bool

/-- The formatter's cells. -/
structure FC (cs : Array Value) (Bf : Nat) (f : Fl) : Prop where
  c0 : cs[0]? = some (.pointer (some ⟨Bf, 0, none⟩))
  c1 : cs[1]? = some (.bool f.wp)
  c2 : cs[2]? = some (.bool f.pp)
  c3 : cs[3]? = some (.bool f.mi)
  c5 : cs[5]? = some (.bool f.sh)
  c6 : cs[6]? = some (.bool f.sp)
  c7 : cs[7]? = some (.bool f.ze)
  c13 : cs[13]? = some (.int .i64 f.wid)
  c14 : cs[14]? = some (.int .i64 f.prec)

/-- What a method may have turned: the buffer's own cell, and blocks from 'base' on. -/
structure Keep (base Bf : Nat) (w w' : World) : Prop where
  os : w'.os = w.os
  tape : w'.tape = w.tape
  output : w'.output = w.output
  size : w.heap.size ≤ w'.heap.size
  block : ∀ k, k < base → k ≠ Bf → w'.heap[k]? = w.heap[k]?

theorem Keep.refl (base Bf : Nat) (w : World) : Keep base Bf w w := ⟨rfl, rfl, rfl, Nat.le_refl _, fun _ _ _ => rfl⟩
theorem Keep.trans {base Bf : Nat} {a b c : World} (h : Keep base Bf a b) (k : Keep base Bf b c) : Keep base Bf a c :=
  ⟨k.os.trans h.os, k.tape.trans h.tape, k.output.trans h.output, Nat.le_trans h.size k.size, fun i hi hn => (k.block i hi hn).trans (h.block i hi hn)⟩
theorem Keep.below {base Bf B : Nat} {a w : World} (h : Keep base Bf a w) (h1 : B ≤ Bf) (h2 : B ≤ base) : Below B a w :=
  ⟨h.os, h.tape, h.output, h.size, fun k hk => h.block k (by omega) (by omega)⟩
theorem Keep.of_below {base Bf : Nat} {a w : World} (h : Below base a w) : Keep base Bf a w :=
  ⟨h.os, h.tape, h.output, h.size, fun k hk _ => h.block k hk⟩
theorem Keep.drew {base Bf : Nat} {a w : World} (h : Keep base Bf a w) : Keep base Bf a w.drew := ⟨h.os, h.tape, h.output, h.size, h.block⟩
theorem Keep.buf {base Bf : Nat} {a w : World} (h : Keep base Bf a w) (o : Nat) (u : Value) : Keep base Bf a (w.setCell ⟨Bf, o, none⟩ u) :=
  h.trans ⟨rfl, rfl, rfl, by simp [World.setCell], fun _ _ hn => Below.heap_setCell _ _ _ _ hn⟩
theorem Keep.cell {base Bf : Nat} {w w' : World} (h : Keep base Bf w w') {p : Addr} (hp : p.block < base) (hn : p.block ≠ Bf) : w'.cell? p = w.cell? p := World.cell?_of_block (w := w) (h.block p.block hp hn)

/-- The formatter at block F, its buffer variable at block Bf, holding the bytes xs in a row of its own from 'base' on. -/
structure FB (w : World) (base Bf F : Nat) (f : Fl) (xs : List UInt8) : Prop where
  hF : ∃ cs, w.heap[F]? = some (.cells cs 50 (0, 0)) ∧ FC cs Bf f
  hB : ∃ v, w.heap[Bf]? = some (.cells #[v] 45 (0, 0)) ∧ w.ownsRow base 5 1 v xs.length (bytesV xs)
  hBf : 2 ≤ Bf
  hF2 : 2 ≤ F
  hne : F ≠ Bf
  hFb : F < base
  hBb : Bf < base
  hbs : base ≤ w.heap.size
  hmax : w.cell? ⟨0, 0, none⟩ = some (.int .i64 2147483647)

theorem FB.cell {w : World} {base Bf F : Nat} {f : Fl} {xs : List UInt8} (h : FB w base Bf F f xs) :
    w.cell? ⟨F, 0, none⟩ = some (.pointer (some ⟨Bf, 0, none⟩)) ∧ w.cell? ⟨F, 1, none⟩ = some (.bool f.wp) ∧ w.cell? ⟨F, 2, none⟩ = some (.bool f.pp) ∧ w.cell? ⟨F, 3, none⟩ = some (.bool f.mi) ∧
    w.cell? ⟨F, 5, none⟩ = some (.bool f.sh) ∧ w.cell? ⟨F, 6, none⟩ = some (.bool f.sp) ∧ w.cell? ⟨F, 7, none⟩ = some (.bool f.ze) ∧ w.cell? ⟨F, 13, none⟩ = some (.int .i64 f.wid) ∧ w.cell? ⟨F, 14, none⟩ = some (.int .i64 f.prec) := by
  obtain ⟨cs, hg, hc⟩ := h.hF
  simp only [cell_of_row w F _ cs 50 (0, 0) hg]
  exact ⟨hc.c0, hc.c1, hc.c2, hc.c3, hc.c5, hc.c6, hc.c7, hc.c13, hc.c14⟩

/-- Behind a frame that kept the rest, and with the buffer as said, the formatter stands as it did. -/
theorem FB.next {w w' : World} {base Bf F : Nat} {f : Fl} {xs ys : List UInt8} (h : FB w base Bf F f xs) (hk : Keep base Bf w w')
    (hB : ∃ v, w'.heap[Bf]? = some (.cells #[v] 45 (0, 0)) ∧ w'.ownsRow base 5 1 v ys.length (bytesV ys)) : FB w' base Bf F f ys := by
  obtain ⟨cs, hg, hc⟩ := h.hF
  refine ⟨⟨cs, (hk.block F h.hFb h.hne).trans hg, hc⟩, hB, h.hBf, h.hF2, h.hne, h.hFb, h.hBb, Nat.le_trans h.hbs hk.size, ?_⟩
  rw [hk.cell (p := ⟨0, 0, none⟩) (by have := h.hBf; have := h.hBb; show 0 < base; omega) (by have := h.hBf; show 0 ≠ Bf; omega)]
  exact h.hmax

theorem FB.drew {w : World} {base Bf F : Nat} {f : Fl} {xs : List UInt8} (h : FB w base Bf F f xs) : FB w.drew base Bf F f xs :=
  h.next (Keep.refl _ _ w).drew h.hB

set_option maxHeartbeats 400000 in
/-- ZZnewFormatter: two new blocks. -/
theorem new_any (wid prec : Int) (wp pp mi pl sh sp ze : Bool) (w : World) :
    Calls Eehg.prog 13 #[.int .i64 wid, .bool wp, .int .i64 prec, .bool pp, .bool mi, .bool pl, .bool sh, .bool sp, .bool ze] w fun e w' => e = .returned (.pointer (some ⟨w.heap.size + 1, 0, none⟩)) ∧
      ∃ cs, w' = (w.alloc (.cells #[.slice none 0 0] 45)).alloc (.cells cs 50) ∧ FC cs w.heap.size ⟨wid, prec, wp, pp, mi, sh, sp, ze⟩ := by
  go_enter Eehg.func13, Eehg.ntmps13
  go_wp2
  go_ret
  refine ⟨rfl, _, rfl, ?_⟩
  constructor <;> simp [Eehg.zeroCells50]

/-- The new formatter stands. -/
theorem FB.new {w : World} {cs : Array Value} {f : Fl} (hw : 2 ≤ w.heap.size) (hc : FC cs w.heap.size f) (hmax : w.cell? ⟨0, 0, none⟩ = some (.int .i64 2147483647)) :
    FB ((w.alloc (.cells #[.slice none 0 0] 45)).alloc (.cells cs 50)) (w.heap.size + 2) w.heap.size (w.heap.size + 1) f [] := by
  refine ⟨⟨cs, heap_alloc2_new _ _ _, hc⟩, ⟨.slice none 0 0, ?_, World.ownsRow_nil _ _ _ _⟩, hw, by omega, by omega, by omega, by omega, by simp, ?_⟩
  · rw [Below.heap_alloc _ _ _ (by simp), heap_alloc_new]
  · rw [World.cell?_of_block (w := w) (a := ⟨0, 0, none⟩)]
    · exact hmax
    · show ((w.alloc _).alloc _).heap[0]? = _
      rw [Below.heap_alloc _ _ _ (by simp), Below.heap_alloc _ _ _ (by omega)]

/-- While the buffer is nil a new block (the bytes of a string, say) may lie below the base. -/
theorem FB.raise {w : World} {base Bf F : Nat} {f : Fl} (h : FB w base Bf F f []) (o : Obj) (hv : w.heap[Bf]? = some (.cells #[.slice none 0 0] 45 (0, 0))) : FB (w.alloc o) (w.heap.size + 1) Bf F f [] := by
  obtain ⟨cs, hg, hc⟩ := h.hF
  have hb := h.hbs
  have h1 := h.hFb
  have h2 := h.hBb
  refine ⟨⟨cs, ?_, hc⟩, ⟨.slice none 0 0, ?_, World.ownsRow_nil _ _ _ _⟩, h.hBf, h.hF2, h.hne, by omega, by omega, by simp, ?_⟩
  · rw [Below.heap_alloc _ _ _ (by omega)]; exact hg
  · rw [Below.heap_alloc _ _ _ (by omega)]; exact hv
  · rw [World.cell?_of_block (w := w) (a := ⟨0, 0, none⟩)]
    · exact h.hmax
    · show (w.alloc _).heap[0]? = _
      rw [Below.heap_alloc _ _ _ (by omega)]

end Go.Proofs.YoeehwDoor
