/-
  FnFmtSPadsFirstPrecRunes: the row and the tied card.
-/
import Derived.Test.YoeehwDoorLawD
import Derived.Test.YoeehwDoorRowKit
import Derived.Test.YoeehwDoorCards
import Derived.Test.YoeehwDoorTie
import Derived.SevenTiedAt
namespace Go.Proofs.YoeehwDoor
open Go.ChangeShapes Go.WideShapes Go.ChangeAt Go.WideMaps Go.WideElems Go.RowKit
open Go.ChangeMaps (open_string shut_string)

theorem i64_max {a : Int} (h : (Lit.int .i64 a).wf = true) : a ≤ 9223372036854775807 := by
  have h2 : IntKind.i64.max = 9223372036854775807 := rfl
  simp only [Lit.wf, Bool.and_eq_true, decide_eq_true_eq] at h
  omega

set_option maxRecDepth 100000 in
theorem liftedD (os : Os) (started : os.Started) (H : Type) (enc : TypeId × Value → H) :
    ReturnsInHanded {} Eehg.checked os 5 .any (fun w args => (Rows.fnFmtSPadsFirstPrecRunesSpec.pre enc Eehg.prog Eehg.f5 [] false w args ∧ laidMetH Eehg.prog laidL w) ∧ sizedMet enc Eehg.prog Eehg.f5 (OpenSpec.ofChange Rows.fnFmtSPadsFirstPrecRunesSpec) false w args)
      (Rows.fnFmtSPadsFirstPrecRunesSpec.post enc Eehg.prog Eehg.f5 false true false false) := by
  refine returnsInHanded_of_change_and (C := Eehg.checked) (X := fun w _ => laidMetH Eehg.prog laidL w) (fun _ _ _ hh h => h.of_heap hh) own started (by kernel_rfl) Eehg.func5
    (ChangeSpec.witness_shaped (enc := enc) (C := Eehg.checked) (os := os) (X := fun w _ => laidMetH Eehg.prog laidL w) false (World.doorLaid Eehg.prog 42 os)
      #[.string ByteArray.empty, .int .i64 0, .bool false, .int .i64 0, .bool false, .bool false, .bool false] 8 rfl (World.shaped_of_RefB (by kernel_rfl) (by kernel_rfl)) (by kernel_rfl) (by kernel_rfl) (by kernel_rfl) (door_met os _)) ?_
  intro W base args ds gs before hval0 hW _ _ hL _
  have hval : ∀ (j : Nat) t v, Eehg.f5.params[j]? = some t → args[j]? = some v → Value.okWide Eehg.prog W .any base t v := hval0
  have hW' := hW
  obtain ⟨p, q, hA0, hV0, rfl, hfz, hnd⟩ := hW
  have hA : DataW.TrodAll enc Eehg.prog W 0 (fun _ => true) true Eehg.f5.params.toList args.toList ds p := hA0
  have hV : DataW.TrodVars enc Eehg.prog W (fun _ => true) [nMax, nErr] gs q := hV0
  rw [Eehg.params5] at hA hval
  obtain ⟨v0, vs0, d0, ds0, p0, q0, hargs, rfl, rfl, h0, r0⟩ := trodAll_cons hA
  obtain ⟨v1, vs1, d1, ds1, p1, q1, rfl, rfl, rfl, h1, r1⟩ := trodAll_cons r0
  obtain ⟨v2, vs2, d2, ds2, p2, q2, rfl, rfl, rfl, h2, r2⟩ := trodAll_cons r1
  obtain ⟨v3, vs3, d3, ds3, p3, q3, rfl, rfl, rfl, h3, r3⟩ := trodAll_cons r2
  obtain ⟨v4, vs4, d4, ds4, p4, q4, rfl, rfl, rfl, h4, r4⟩ := trodAll_cons r3
  obtain ⟨v5, vs5, d5, ds5, p5, q5, rfl, rfl, rfl, h5, r5⟩ := trodAll_cons r4
  obtain ⟨v6, vs6, d6, ds6, p6, q6, rfl, rfl, rfl, h6, r6⟩ := trodAll_cons r5
  obtain ⟨rfl, rfl, rfl⟩ := trodAll_nil r6
  obtain rfl : args = #[v0, v1, v2, v3, v4, v5, v6] := by cases args; simp_all
  obtain ⟨a0, rfl, rfl, rfl, w0⟩ := open_string Eehg.underlying9 (hval 0 9 v0 rfl rfl) h0
  obtain ⟨a1, rfl, rfl, rfl, w1⟩ := open_int Eehg.underlying3 (hval 1 3 v1 rfl rfl) h1
  obtain ⟨a2, rfl, rfl, rfl⟩ := open_bool Eehg.underlying4 (hval 2 4 v2 rfl rfl) h2
  obtain ⟨a3, rfl, rfl, rfl, w3⟩ := open_int Eehg.underlying3 (hval 3 3 v3 rfl rfl) h3
  obtain ⟨a4, rfl, rfl, rfl⟩ := open_bool Eehg.underlying4 (hval 4 4 v4 rfl rfl) h4
  obtain ⟨a5, rfl, rfl, rfl⟩ := open_bool Eehg.underlying4 (hval 5 4 v5 rfl rfl) h5
  obtain ⟨a6, rfl, rfl, rfl⟩ := open_bool Eehg.underlying4 (hval 6 4 v6 rfl rfl) h6
  obtain ⟨hsz, hmax⟩ := of_laid hL
  clear hA0 hV0 hval0
  refine (lawD a0 a1 a3 a2 a4 a5 a6 W hsz hmax w0 (i64_max w3)).mono fun e W' ⟨he, hb⟩ => ?_
  subst he
  obtain ⟨g0, g1, rfl, hV'⟩ := vars_again (sp := fun b => decide (b < W.heap.size)) hV hb
  refine ⟨_, rfl, _, _, _, [], [], q, hW', ?_, ?_, hV', hb.frame _, fun h => by cases h⟩
  · exact trodAll_mk1 (shut_bool Eehg.underlying4 true)
  · exact trodAll_cons_mk (shut_string Eehg.underlying9 w0) (trodAll_cons_mk (shut_int Eehg.underlying3 w1) (trodAll_cons_mk (shut_bool Eehg.underlying4 _) (trodAll_cons_mk (shut_int Eehg.underlying3 w3) (trodAll_cons_mk (shut_bool Eehg.underlying4 _) (trodAll_cons_mk (shut_bool Eehg.underlying4 _) (trodAll_cons_mk (shut_bool Eehg.underlying4 _) trodAll_mk0))))))

theorem rowD : Rows.FnFmtSPadsFirstPrecRunesSaid :=
  OpenClaim.holds_of_wide 5 Eehg.f5 rfl rfl rfl rfl rfl rfl rfl ⟨rfl, rfl, rfl, rfl, rfl⟩ rfl rfl rfl rfl rfl (by kernel_rfl) Eehg.func5 (by kernel_rfl)
    (of_decide_eq_true (by kernel_rfl)) (by unfold Func.isWrapper; first | (rw [if_pos (by decide +kernel)]; kernel_rfl) | (rw [if_neg (by decide +kernel)]; exact ⟨rfl, rfl⟩))
    (fun os started H enc _ => liftedD os started H enc)

/-- THE STATEMENT: the tied card. -/
theorem cardD : Rows.FnFmtSPadsFirstPrecRunesCardSaid :=
  Claim7.holds_tied_plain_at .later [] [.called, .data] true Rows.fnFmtSPadsFirstPrecRunesCard.stood.harness false
    rowD (fun _ h => by cases h) (by kernel_rfl) (fun _ h => by cases h) fnFmtSPadsFirstPrecRunes_row_tie rfl ⟨rfl, rfl⟩ (by kernel_rfl) rfl
    (fun f fn hf hfn => by
      obtain rfl : f = 5 := Option.some.inj ((show Eehg.prog.funcNamed Rows.fnFmtSPadsFirstPrecRunesRow.func = some 5 by kernel_rfl).symm.trans hf) |>.symm
      obtain rfl : fn = Eehg.f5 := (Option.some.inj (Eehg.func5.symm.trans hfn)).symm
      exact ⟨by kernel_rfl, fun j t ht => by
        rw [Eehg.params5] at ht
        have hm : t ∈ [9, 3, 4, 3, 4, 4, 4] := by simpa using Array.mem_of_getElem? ht
        have hall : ([9, 3, 4, 3, 4, 4, 4].all fun u => !Eehg.prog.wantsStandIn u) = true := by kernel_rfl
        exact (show Eehg.prog.wantsStandIn t = false by simpa using List.all_eq_true.1 hall t hm)⟩)
    (by kernel_rfl)

end Go.Proofs.YoeehwDoor
