/-
  FnFmtSLargerPrecisionExtends: the row and the tied card.
-/
import Derived.Test.YoeehwDoorLawC
import Derived.Test.YoeehwDoorRowKit
import Derived.Test.YoeehwDoorCards
import Derived.Test.YoeehwDoorTie
import Derived.SevenTiedAt
namespace Go.Proofs.YoeehwDoor
open Go.ChangeShapes Go.WideShapes Go.ChangeAt Go.WideMaps Go.WideElems Go.RowKit
open Go.ChangeMaps (open_string shut_string)

theorem i64_le {a : Int} (h : (Lit.int .i64 a).wf = true) : a ≤ 9223372036854775807 := by
  have h2 : IntKind.i64.max = 9223372036854775807 := rfl
  simp only [Lit.wf, Bool.and_eq_true, decide_eq_true_eq] at h
  omega

set_option maxRecDepth 100000 in
theorem liftedC (os : Os) (started : os.Started) (H : Type) (enc : TypeId × Value → H) :
    ReturnsInHanded {} Eehg.checked os 6 .any (fun w args => (Rows.fnFmtSLargerPrecisionExtendsSpec.pre enc Eehg.prog Eehg.f6 [] false w args ∧ laidMetH Eehg.prog laidL w) ∧ sizedMet enc Eehg.prog Eehg.f6 (OpenSpec.ofChange Rows.fnFmtSLargerPrecisionExtendsSpec) false w args)
      (Rows.fnFmtSLargerPrecisionExtendsSpec.post enc Eehg.prog Eehg.f6 false true false false) := by
  refine returnsInHanded_of_change_and (C := Eehg.checked) (X := fun w _ => laidMetH Eehg.prog laidL w) (fun _ _ _ hh h => h.of_heap hh) own started (by kernel_rfl) Eehg.func6
    (ChangeSpec.witness_shaped (enc := enc) (C := Eehg.checked) (os := os) (X := fun w _ => laidMetH Eehg.prog laidL w) false (World.doorLaid Eehg.prog 42 os)
      #[.string ByteArray.empty, .int .i64 0, .int .i64 0] 8 rfl (World.shaped_of_RefB (by kernel_rfl) (by kernel_rfl)) (by kernel_rfl) (by kernel_rfl) (by kernel_rfl) (door_met os _)) ?_
  intro W base args ds gs before hval0 hW _ _ hL _
  have hval : ∀ (j : Nat) t v, Eehg.f6.params[j]? = some t → args[j]? = some v → Value.okWide Eehg.prog W .any base t v := hval0
  have hW' := hW
  obtain ⟨p, q, hA0, hV0, rfl, hfz, hnd⟩ := hW
  have hA : DataW.TrodAll enc Eehg.prog W 0 (fun _ => true) true Eehg.f6.params.toList args.toList ds p := hA0
  have hV : DataW.TrodVars enc Eehg.prog W (fun _ => true) [nMax, nErr] gs q := hV0
  rw [Eehg.params6] at hA hval
  obtain ⟨v0, vs0, d0, ds0, p0, q0, hargs, rfl, rfl, h0, r0⟩ := trodAll_cons hA
  obtain ⟨v1, vs1, d1, ds1, p1, q1, rfl, rfl, rfl, h1, r1⟩ := trodAll_cons r0
  obtain ⟨v2, vs2, d2, ds2, p2, q2, rfl, rfl, rfl, h2, r2⟩ := trodAll_cons r1
  obtain ⟨rfl, rfl, rfl⟩ := trodAll_nil r2
  obtain rfl : args = #[v0, v1, v2] := by cases args; simp_all
  obtain ⟨a0, rfl, rfl, rfl, w0⟩ := open_string Eehg.underlying9 (hval 0 9 v0 rfl rfl) h0
  obtain ⟨a1, rfl, rfl, rfl, w1⟩ := open_int Eehg.underlying3 (hval 1 3 v1 rfl rfl) h1
  obtain ⟨a2, rfl, rfl, rfl, w2⟩ := open_int Eehg.underlying3 (hval 2 3 v2 rfl rfl) h2
  obtain ⟨hsz, hmax⟩ := of_laid hL
  clear hA0 hV0 hval0
  refine (lawC a0 a1 a2 W hsz hmax w0 (i64_le w1) (i64_le w2)).mono fun e W' ⟨he, hb⟩ => ?_
  subst he
  obtain ⟨g0, g1, rfl, hV'⟩ := vars_again (sp := fun b => decide (b < W.heap.size)) hV hb
  refine ⟨_, rfl, _, _, _, [], [], q, hW', ?_, ?_, hV', hb.frame _, fun h => by cases h⟩
  · exact trodAll_mk1 (shut_bool Eehg.underlying4 true)
  · exact trodAll_cons_mk (shut_string Eehg.underlying9 w0) (trodAll_cons_mk (shut_int Eehg.underlying3 w1) (trodAll_cons_mk (shut_int Eehg.underlying3 w2) trodAll_mk0))

theorem rowC : Rows.FnFmtSLargerPrecisionExtendsSaid :=
  OpenClaim.holds_of_wide 6 Eehg.f6 rfl rfl rfl rfl rfl rfl rfl ⟨rfl, rfl, rfl, rfl, rfl⟩ rfl rfl rfl rfl rfl (by kernel_rfl) Eehg.func6 (by kernel_rfl)
    (of_decide_eq_true (by kernel_rfl)) (by unfold Func.isWrapper; first | (rw [if_pos (by decide +kernel)]; kernel_rfl) | (rw [if_neg (by decide +kernel)]; exact ⟨rfl, rfl⟩))
    (fun os started H enc _ => liftedC os started H enc)

/-- THE STATEMENT: the tied card. -/
theorem cardC : Rows.FnFmtSLargerPrecisionExtendsCardSaid :=
  Claim7.holds_tied_plain_at .later [] [.called, .data] true Rows.fnFmtSLargerPrecisionExtendsCard.stood.harness false
    rowC (fun _ h => by cases h) (by kernel_rfl) (fun _ h => by cases h) fnFmtSLargerPrecisionExtends_row_tie rfl ⟨rfl, rfl⟩ (by kernel_rfl) rfl
    (fun f fn hf hfn => by
      obtain rfl : f = 6 := Option.some.inj ((show Eehg.prog.funcNamed Rows.fnFmtSLargerPrecisionExtendsRow.func = some 6 by kernel_rfl).symm.trans hf) |>.symm
      obtain rfl : fn = Eehg.f6 := (Option.some.inj (Eehg.func6.symm.trans hfn)).symm
      exact ⟨by kernel_rfl, fun j t ht => by
        rw [Eehg.params6] at ht
        have hm : t ∈ [9, 3, 3] := by simpa using Array.mem_of_getElem? ht
        have hall : ([9, 3, 3].all fun u => !Eehg.prog.wantsStandIn u) = true := by kernel_rfl
        exact (show Eehg.prog.wantsStandIn t = false by simpa using List.all_eq_true.1 hall t hm)⟩)
    (by kernel_rfl)

end Go.Proofs.YoeehwDoor
