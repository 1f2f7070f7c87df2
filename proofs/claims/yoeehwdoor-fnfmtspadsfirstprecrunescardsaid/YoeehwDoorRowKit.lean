/-
  WHAT THE FOUR ROWS SHARE: the two package-level variables, out of the rows' condition 'laid'; how they read behind the call; the witness' start.
-/
import Derived.Test.YoeehwDoorRows
import Derived.WalkKit
import Derived.WalkLawsBesides
import Derived.ProofKit
import Derived.OpenShut
import Derived.LaidMore
import Derived.Stop.Joined
namespace Go.Proofs.YoeehwDoor
open Go.ChangeShapes Go.WideShapes Go.ChangeAt Go.WideMaps Go.WideElems Go.RowKit

theorem own : ownKnob Eehg.prog.godebug = none := by kernel_rfl
theorem laidOut : laidOutB Eehg.prog = true := by kernel_rfl

/-- The four rows' list. -/
def laidL : List (String × DataW Unit) := Rows.fnFmtSbxHexModelRow.laid
/-- The two names, as the specifications list them. -/
def nMax : String := Rows.fnFmtSbxHexModelSpec.vars.getD 0 default
def nErr : String := Rows.fnFmtSbxHexModelSpec.vars.getD 1 default
theorem gMax : Eehg.prog.globalNamed nMax = some 0 := by kernel_rfl
theorem gErr : Eehg.prog.globalNamed nErr = some 1 := by kernel_rfl
theorem tMax : (Eehg.prog.globals[0]?).map (·.type) = some 3 := by kernel_rfl
theorem tErr : (Eehg.prog.globals[1]?).map (·.type) = some 64 := by kernel_rfl

theorem door_met (os : Os) (args : Array Value) : laidMetH Eehg.prog laidL ((World.doorLaid Eehg.prog 42 os).forCall (fun _ _ => 0) ⟨#[], args, []⟩).memory :=
  laidMetH_of_parts3 (fuel := 8) (laidMet_of_run' 8 (by kernel_rfl) (by kernel_rfl)) (by kernel_rfl) (by kernel_rfl)

theorem var_lt {P : Program} {W : World} {n : String} {g : Nat} {cs : Array Value} (hg : P.globalNamed n = some g) (h : W.var? P n = some cs) : g < W.heap.size := by
  unfold World.var? at h
  simp only [hg, Option.bind_some] at h
  rcases Nat.lt_or_ge g W.heap.size with h' | h'
  · exact h'
  · simp [Array.getElem?_eq_none h'] at h

theorem var_below {P : Program} {B g : Nat} {W W' : World} {n : String} {cs : Array Value} (h : Below B W W') (hg : P.globalNamed n = some g) (hgB : g < B) (hv : W.var? P n = some cs) : W'.var? P n = some cs := by
  unfold World.var? at hv ⊢
  simp only [hg, Option.bind_some] at hv ⊢
  rw [h.block g hgB]
  exact hv

/-- WHAT THE CONDITION GIVES THE WALKS. -/
theorem of_laid {W : World} (h : laidMetH Eehg.prog laidL W) : 2 ≤ W.heap.size ∧ W.cell? ⟨0, 0, none⟩ = some (.int .i64 2147483647) := by
  rw [MakeChecks.laidMetH_plain _ _ _ (by kernel_rfl)] at h
  obtain ⟨ps, ⟨g0, t0, cs0, f0, p0, q0, hg0, ht0, hv0, hd0, ⟨g1, t1, cs1, f1, p1, q1, hg1, ht1, hv1, hd1, _, _⟩, _⟩, _, _⟩ := h
  obtain rfl := Option.some.inj (gErr.symm.trans hg0)
  obtain rfl := Option.some.inj (gMax.symm.trans hg1)
  obtain rfl := Option.some.inj (tErr.symm.trans ht0)
  obtain rfl := Option.some.inj (tMax.symm.trans ht1)
  refine ⟨var_lt hg0 hv0, ?_⟩
  obtain ⟨k, e1, e2, _⟩ := DataW.trod_int Eehg.underlying3 hd1
  have hk : k = 2147483647 := by
    have e3 := congrArg Prod.fst e2
    simpa [Rows.laid_github_com_d5_tengo_v2_MaxStringLen] using e3.symm
  subst hk
  have := World.var?_cell hg1 hv1 0
  rw [Array.eq_one_of_toList e1] at this
  simpa using this

/-- The two variables read behind the call as they did before it. -/
theorem vars_again {H : Type} {enc : TypeId × Value → H} {W W' : World} {sp : Nat → Bool} {gs : List (DataW H)} {q : List MemPlace} (hV : DataW.TrodVars enc Eehg.prog W (fun _ => true) [nMax, nErr] gs q) (hb : Below W.heap.size W W') :
    ∃ d0 d1, gs = [d0, d1] ∧ DataW.TrodVars enc Eehg.prog W' sp [nMax, nErr] [d0, d1] q := by
  obtain ⟨g0, t0, cs0, f0, d0, p0, g1, t1, cs1, f1, d1, p1, rfl, hg0, ht0, hv0, hd0, hg1, ht1, hv1, hd1, rfl⟩ := trodVars_two hV
  obtain rfl := Option.some.inj (gMax.symm.trans hg0)
  obtain rfl := Option.some.inj (gErr.symm.trans hg1)
  obtain rfl := Option.some.inj (tMax.symm.trans ht0)
  obtain rfl := Option.some.inj (tErr.symm.trans ht1)
  have hl0 := var_lt hg0 hv0
  have hl1 := var_lt hg1 hv1
  refine ⟨d0, d1, rfl, ?_⟩
  obtain ⟨k, e1, e2, e3⟩ := DataW.trod_int Eehg.underlying3 hd0
  obtain ⟨x, rfl, hx, rfl, rfl, hc⟩ := token_of gErr Eehg.underlying64 hv1 hd1
  simp only [Prod.mk.injEq] at e2
  obtain ⟨rfl, rfl⟩ := e2
  have hcs0 := Array.eq_one_of_toList e1
  subst hcs0
  exact ⟨0, 3, #[.int .i64 k], 1, [], MemPlace.row ⟨1, 0, none⟩ 1, gMax, tMax, var_below hb gMax hl0 hv0, trod_int_mk 0 Eehg.underlying3 e3, ⟨1, 64, #[x], 1, [], [], gErr, tErr, var_below hb gErr hl1 hv1, trod_held Eehg.underlying64 hx 0, rfl, by simp⟩, by simp⟩

end Go.Proofs.YoeehwDoor
