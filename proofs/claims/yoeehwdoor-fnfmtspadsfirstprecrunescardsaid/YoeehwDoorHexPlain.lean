/-
  THE PLAIN LAW of FnFmtSbxHexModel: what the law's own model writes is what fmtSbx writes.
-/
import Derived.Test.YoeehwDoorPlain
namespace Go.Proofs.YoeehwDoor

/-- What zzHexModel has written after k rounds. -/
def hmTo (dg : List UInt8) (sh sp : Bool) (src : List UInt8) : Nat → List UInt8
  | 0 => if sh && !sp then pre dg else []
  | k + 1 => hmTo dg sh sp src k ++ ((if sp && decide (0 < k) then [32] else []) ++ ((if sp && sh then pre dg else []) ++ tok dg (at8 src k)))

theorem hmTo_eq (dg : List UInt8) (sh sp : Bool) (src : List UInt8) (k : Nat) : hmTo dg sh sp src (k + 1) = sbxTo dg sh sp src (k + 1) := by
  induction k with
  | zero => cases sp <;> cases sh <;> simp [hmTo, sbxTo, gap]
  | succ k ih =>
    rw [hmTo, sbxTo, ih, gap]
    cases sp <;> cases sh <;> simp

theorem hmTo_le (dg : List UInt8) (sh sp : Bool) (src : List UInt8) (k : Nat) : (hmTo dg sh sp src k).length ≤ 5 * k + 2 := by
  cases k with
  | zero => cases sp <;> cases sh <;> simp [hmTo, pre]
  | succ k => rw [hmTo_eq]; exact sbxTo_le dg sh sp src (k + 1)

/-- zzAround. -/
def around (xs : List UInt8) (k : Nat) (c : UInt8) (left : Bool) : List UInt8 := if left then List.replicate k c ++ xs else xs ++ List.replicate k c

/-- The law's own model. -/
theorem hex_none (src dg : List UInt8) (wid prec : Int) (wp pp mi sh sp : Bool) (c : UInt8) (hk : lenOf src.length prec pp ≤ 0) :
    sbxOut src dg wid prec wp pp mi sh sp c = around [] (if wp && decide (0 < wid) then wid else 0).toNat c true := by
  unfold sbxOut around padN
  rw [if_pos hk]
  cases wp
  · simp
  · by_cases h : 0 < wid
    · simp [h]
    · have : wid.toNat = 0 := by omega
      simp [h, this]

theorem hex_some (src dg : List UInt8) (wid prec : Int) (wp pp mi sh sp : Bool) (c : UInt8) (k : Nat) (hk : lenOf src.length prec pp = ((k + 1 : Nat) : Int)) (E : List UInt8) (hE : E = hmTo dg sh sp src (k + 1)) :
    sbxOut src dg wid prec wp pp mi sh sp c = around E (if wp && decide ((E.length : Int) < wid) then wid - E.length else 0).toNat c (!mi) := by
  subst hE
  unfold sbxOut around padN
  rw [hk, if_neg (by omega), hmTo_eq, Int.toNat_natCast]
  dsimp only
  rw [← sbxTo_len dg sh sp src k]
  cases wp
  · cases mi <;> simp
  · by_cases h : ((sbxTo dg sh sp src (k + 1)).length : Int) < wid
    · cases mi <;> simp [h]
    · have : (wid - ((sbxTo dg sh sp src (k + 1)).length : Int)).toNat = 0 := by omega
      cases mi <;> simp [h, this]

end Go.Proofs.YoeehwDoor
