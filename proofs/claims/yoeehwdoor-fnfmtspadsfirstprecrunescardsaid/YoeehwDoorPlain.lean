/-
  THE PLAIN FUNCTIONS: what fmtSbx writes, on lists of bytes. No Go in sight.
-/
namespace Go.Proofs.YoeehwDoor

/-- The byte at place i (0 behind the end). -/
def at8 (xs : List UInt8) (i : Nat) : UInt8 := xs.getD i 0

/-- One byte as two digits. -/
def tok (dg : List UInt8) (c : UInt8) : List UInt8 := [at8 dg (c.toNat / 16), at8 dg (c.toNat % 16)]
/-- '0x'. -/
def pre (dg : List UInt8) : List UInt8 := [48, at8 dg 16]
/-- What round i of fmtSbx's loop appends ahead of the digits. -/
def gap (dg : List UInt8) (sh sp : Bool) (i : Nat) : List UInt8 := if sp && decide (0 < i) then 32 :: (if sh then pre dg else []) else []
/-- What the loop has written after k rounds, the leading '0x' with it. -/
def sbxTo (dg : List UInt8) (sh sp : Bool) (src : List UInt8) : Nat → List UInt8
  | 0 => if sh then pre dg else []
  | k + 1 => sbxTo dg sh sp src k ++ (gap dg sh sp k ++ tok dg (at8 src k))

/-- The width of the encoding of L bytes, L positive. -/
def wide (sh sp : Bool) (L : Nat) : Nat := if sp then (if sh then 4 * L else 2 * L) + (L - 1) else if sh then 2 * L + 2 else 2 * L

theorem gap_len (dg : List UInt8) (sh sp : Bool) (i : Nat) : (gap dg sh sp i).length = if sp && decide (0 < i) then (if sh then 3 else 1) else 0 := by
  unfold gap
  cases sp <;> cases sh <;> by_cases h : 0 < i <;> simp [h, pre]

theorem sbxTo_len (dg : List UInt8) (sh sp : Bool) (src : List UInt8) (k : Nat) : (sbxTo dg sh sp src (k + 1)).length = wide sh sp (k + 1) := by
  induction k with
  | zero => cases sp <;> cases sh <;> simp [sbxTo, wide, gap, tok, pre]
  | succ k ih =>
    rw [sbxTo, List.length_append, ih, List.length_append, gap_len]
    cases sp <;> cases sh <;> simp [wide, tok] <;> omega

theorem sbxTo_le (dg : List UInt8) (sh sp : Bool) (src : List UInt8) (k : Nat) : (sbxTo dg sh sp src k).length ≤ 5 * k + 2 := by
  cases k with
  | zero => cases sh <;> simp [sbxTo, pre]
  | succ k => rw [sbxTo_len]; cases sp <;> cases sh <;> simp [wide] <;> omega

theorem wide_le (sh sp : Bool) (L : Nat) : wide sh sp L ≤ 5 * L + 2 := by
  cases sp <;> cases sh <;> simp [wide] <;> omega

/-- How many bytes are encoded. -/
def lenOf (n : Nat) (prec : Int) (pp : Bool) : Int := if pp && decide (prec < (n : Int)) then prec else n

/-- The padding ahead (mi = false) or behind (mi = true). -/
def padN (wid : Int) (wp : Bool) (W : Nat) : Nat := if wp then (wid - W).toNat else 0

/-- What fmtSbx writes. -/
def sbxOut (src dg : List UInt8) (wid prec : Int) (wp pp mi sh sp : Bool) (c : UInt8) : List UInt8 :=
  if lenOf src.length prec pp ≤ 0 then List.replicate (padN wid wp 0) c
  else
    let L := (lenOf src.length prec pp).toNat
    let p := List.replicate (padN wid wp (wide sh sp L)) c
    if mi then sbxTo dg sh sp src L ++ p else p ++ sbxTo dg sh sp src L

end Go.Proofs.YoeehwDoor
