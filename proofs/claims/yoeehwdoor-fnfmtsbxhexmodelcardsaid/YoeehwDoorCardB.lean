/-
  FnFmtSbxHexModel: the row and the tied card.
-/
import Derived.Test.YoeehwDoorLawB2
import Derived.Test.YoeehwDoorRowKit
import Derived.Test.YoeehwDoorCards
import Derived.Test.YoeehwDoorTie
import Derived.SevenTiedAt
namespace Go.Proofs.YoeehwDoor
open Go.ChangeShapes Go.WideShapes Go.ChangeAt Go.WideMaps Go.WideElems Go.RowKit
open Go.ChangeMaps (open_string shut_string)

theorem cells5 : Eehg.prog.cellsOf 5 = 1 := by kernel_rfl

/-- A byte slice that came in, as the walk asks it. -/
theorem arg_bytes {H : Type} {enc : TypeId × Value → H} {W : World} {ao : Option Addr} {n cp : Nat} {d : DataW H} {p : List MemPlace} (h : DataW.Trod enc Eehg.prog W 0 (fun _ => true) true 22 (.slice ao n cp) d p) :
    (ao = none → cp = 0) ∧ n ≤ maxLen ∧ ∃ bs, BytesAt W ao n bs := by
  obtain ⟨fuel, hf⟩ := h
  rcases open_ints Eehg.underlying22 Eehg.underlying5 cells5 hf with ⟨hcs, hx⟩ | ⟨a, len', cap', zs, hcs, _, hl, hm, hz, hx, hcell, hwz⟩
  · simp [Value.cells] at hcs
    obtain ⟨rfl, rfl, rfl⟩ := hcs
    exact ⟨fun _ => rfl, by unfold maxLen; omega, [], rfl, fun j hj => by simp at hj⟩
  · simp [Value.cells] at hcs
    obtain ⟨rfl, rfl, rfl⟩ := hcs
    simp only [if_true] at hz
    refine ⟨(fun e => by cases e), Nat.le_trans hl hm, (zs.take n).map (fun z => UInt8.ofNat z.toNat), ?_, ?_⟩
    · rw [List.length_map, List.length_take]; omega
    · intro j hj
      have hj' : j < n := by rw [List.length_map, List.length_take] at hj; omega
      have hjz : j < zs.length := by omega
      have hc := hcell j hjz
      have hb := hwz (zs[j]) (List.getElem_mem hjz)
      obtain ⟨b, off, spot⟩ := a
      have hspot : spot = none := by simpa [Addr.add] using World.cell?_spot (hcell 0 (by omega))
      subst hspot
      refine ⟨b, off, rfl, ?_⟩
      rw [Addr.add_lit] at hc
      rw [hc]
      have hz2 : zs.getD j 0 = zs[j] := by simp [List.getD, hjz]
      have hrange : 0 ≤ zs[j] ∧ zs[j] ≤ 255 := by
        have h1 : IntKind.u8.min = 0 := rfl
        have h2 : IntKind.u8.max = 255 := rfl
        simp only [Lit.wf, Bool.and_eq_true, decide_eq_true_eq] at hb
        omega
      rw [hz2]
      simp only [List.getElem_map, List.getElem_take]
      have e : ((UInt8.ofNat (zs[j]).toNat).toNat : Int) = zs[j] := by
        rw [UInt8.toNat_ofNat']
        omega
      rw [e]

set_option maxRecDepth 100000 in
theorem liftedB (os : Os) (started : os.Started) (H : Type) (enc : TypeId × Value → H) :
    ReturnsInHanded {} Eehg.checked os 9 .any (fun w args => (Rows.fnFmtSbxHexModelSpec.pre enc Eehg.prog Eehg.f9 [] false w args ∧ laidMetH Eehg.prog laidL w) ∧ sizedMet enc Eehg.prog Eehg.f9 (OpenSpec.ofChange Rows.fnFmtSbxHexModelSpec) false w args)
      (Rows.fnFmtSbxHexModelSpec.post enc Eehg.prog Eehg.f9 false true false false) := by
  refine returnsInHanded_of_change_and (C := Eehg.checked) (X := fun w _ => laidMetH Eehg.prog laidL w) (fun _ _ _ hh h => h.of_heap hh) own started (by kernel_rfl) Eehg.func9
    (ChangeSpec.witness_shaped (enc := enc) (C := Eehg.checked) (os := os) (X := fun w _ => laidMetH Eehg.prog laidL w) false (World.doorLaid Eehg.prog 42 os)
      #[.string ByteArray.empty, .slice none 0 0, .string ByteArray.empty, .int .i64 0, .bool false, .int .i64 0, .bool false, .bool false, .bool false, .bool false, .bool false] 8 rfl (World.shaped_of_RefB (by kernel_rfl) (by kernel_rfl)) (by kernel_rfl) (by kernel_rfl) (by kernel_rfl) (door_met os _)) ?_
  intro W base args ds gs before hval0 hW _ _ hL _
  have hval : ∀ (j : Nat) t v, Eehg.f9.params[j]? = some t → args[j]? = some v → Value.okWide Eehg.prog W .any base t v := hval0
  have hW' := hW
  obtain ⟨p, q, hA0, hV0, rfl, hfz, hnd⟩ := hW
  have hA : DataW.TrodAll enc Eehg.prog W 0 (fun _ => true) true Eehg.f9.params.toList args.toList ds p := hA0
  have hV : DataW.TrodVars enc Eehg.prog W (fun _ => true) [nMax, nErr] gs q := hV0
  rw [Eehg.params9] at hA hval
  obtain ⟨v0, vs0, d0, ds0, p0, q0, hargs, rfl, rfl, h0, r0⟩ := trodAll_cons hA
  obtain ⟨v1, vs1, d1, ds1, p1, q1, rfl, rfl, rfl, h1, r1⟩ := trodAll_cons r0
  obtain ⟨v2, vs2, d2, ds2, p2, q2, rfl, rfl, rfl, h2, r2⟩ := trodAll_cons r1
  obtain ⟨v3, vs3, d3, ds3, p3, q3, rfl, rfl, rfl, h3, r3⟩ := trodAll_cons r2
  obtain ⟨v4, vs4, d4, ds4, p4, q4, rfl, rfl, rfl, h4, r4⟩ := trodAll_cons r3
  obtain ⟨v5, vs5, d5, ds5, p5, q5, rfl, rfl, rfl, h5, r5⟩ := trodAll_cons r4
  obtain ⟨v6, vs6, d6, ds6, p6, q6, rfl, rfl, rfl, h6, r6⟩ := trodAll_cons r5
  obtain ⟨v7, vs7, d7, ds7, p7, q7, rfl, rfl, rfl, h7, r7⟩ := trodAll_cons r6
  obtain ⟨v8, vs8, d8, ds8, p8, q8, rfl, rfl, rfl, h8, r8⟩ := trodAll_cons r7
  obtain ⟨v9, vs9, d9, ds9, p9, q9, rfl, rfl, rfl, h9, r9⟩ := trodAll_cons r8
  obtain ⟨v10, vs10, d10, ds10, p10, q10, rfl, rfl, rfl, h10, r10⟩ := trodAll_cons r9
  obtain ⟨rfl, rfl, rfl⟩ := trodAll_nil r10
  obtain rfl : args = #[v0, v1, v2, v3, v4, v5, v6, v7, v8, v9, v10] := by cases args; simp_all
  obtain ⟨a0, rfl, rfl, rfl, w0⟩ := open_string Eehg.underlying9 (hval 0 9 v0 rfl rfl) h0
  obtain ⟨b0, len, cap, rfl⟩ := okWide_slice Eehg.underlying22 (hval 1 22 v1 rfl rfl)
  obtain ⟨a2, rfl, rfl, rfl, w2⟩ := open_string Eehg.underlying9 (hval 2 9 v2 rfl rfl) h2
  obtain ⟨a3, rfl, rfl, rfl, w3⟩ := open_int Eehg.underlying3 (hval 3 3 v3 rfl rfl) h3
  obtain ⟨a4, rfl, rfl, rfl⟩ := open_bool Eehg.underlying4 (hval 4 4 v4 rfl rfl) h4
  obtain ⟨a5, rfl, rfl, rfl, w5⟩ := open_int Eehg.underlying3 (hval 5 3 v5 rfl rfl) h5
  obtain ⟨a6, rfl, rfl, rfl⟩ := open_bool Eehg.underlying4 (hval 6 4 v6 rfl rfl) h6
  obtain ⟨a7, rfl, rfl, rfl⟩ := open_bool Eehg.underlying4 (hval 7 4 v7 rfl rfl) h7
  obtain ⟨a8, rfl, rfl, rfl⟩ := open_bool Eehg.underlying4 (hval 8 4 v8 rfl rfl) h8
  obtain ⟨a9, rfl, rfl, rfl⟩ := open_bool Eehg.underlying4 (hval 9 4 v9 rfl rfl) h9
  obtain ⟨a10, rfl, rfl, rfl⟩ := open_bool Eehg.underlying4 (hval 10 4 v10 rfl rfl) h10
  obtain ⟨hsz, hmax⟩ := of_laid hL
  obtain ⟨hnil, hlen, bs, hbs⟩ := arg_bytes h1
  have hlt : ∀ x ∈ p1, x.block < W.heap.size := fun x hx => hW'.lt x (by simp [hx])
  clear hA0 hV0 hval0
  refine (lawB a0 a2 b0 len cap bs a3 a5 a4 a6 a7 a8 a9 a10 W hsz hmax hnil hbs w0 hlen w2).mono fun e W' ⟨he, hb⟩ => ?_
  subst he
  obtain ⟨g0, g1, rfl, hV'⟩ := vars_again (sp := fun b => decide (b < W.heap.size)) hV hb
  have hback := Below.trod laidOut (by kernel_rfl) (of_decide_eq_true (by kernel_rfl)) h1 hb hlt
  refine ⟨_, rfl, _, _, _, [], [] ++ (p1 ++ []), q, hW', ?_, ?_, hV', hb.frame _, fun h => by cases h⟩
  · exact trodAll_mk1 (shut_bool Eehg.underlying4 true)
  · exact trodAll_cons_mk (shut_string Eehg.underlying9 w0) (trodAll_cons_mk hback (trodAll_cons_mk (shut_string Eehg.underlying9 w2) (trodAll_cons_mk (shut_int Eehg.underlying3 w3) (trodAll_cons_mk (shut_bool Eehg.underlying4 _) (trodAll_cons_mk (shut_int Eehg.underlying3 w5)
      (trodAll_cons_mk (shut_bool Eehg.underlying4 _) (trodAll_cons_mk (shut_bool Eehg.underlying4 _) (trodAll_cons_mk (shut_bool Eehg.underlying4 _) (trodAll_cons_mk (shut_bool Eehg.underlying4 _) (trodAll_cons_mk (shut_bool Eehg.underlying4 _) trodAll_mk0))))))))))

theorem rowB : Rows.FnFmtSbxHexModelSaid :=
  OpenClaim.holds_of_wide 9 Eehg.f9 rfl rfl rfl rfl rfl rfl rfl ⟨rfl, rfl, rfl, rfl, rfl⟩ rfl rfl rfl rfl rfl (by kernel_rfl) Eehg.func9 (by kernel_rfl)
    (of_decide_eq_true (by kernel_rfl)) (by unfold Func.isWrapper; first | (rw [if_pos (by decide +kernel)]; kernel_rfl) | (rw [if_neg (by decide +kernel)]; exact ⟨rfl, rfl⟩))
    (fun os started H enc _ => liftedB os started H enc)

/-- THE STATEMENT: the tied card. -/
theorem cardB : Rows.FnFmtSbxHexModelCardSaid :=
  Claim7.holds_tied_plain_at .later [] [.called, .data] true Rows.fnFmtSbxHexModelCard.stood.harness false
    rowB (fun _ h => by cases h) (by kernel_rfl) (fun _ h => by cases h) fnFmtSbxHexModel_row_tie rfl ⟨rfl, rfl⟩ (by kernel_rfl) rfl
    (fun f fn hf hfn => by
      obtain rfl : f = 9 := Option.some.inj ((show Eehg.prog.funcNamed Rows.fnFmtSbxHexModelRow.func = some 9 by kernel_rfl).symm.trans hf) |>.symm
      obtain rfl : fn = Eehg.f9 := (Option.some.inj (Eehg.func9.symm.trans hfn)).symm
      exact ⟨by kernel_rfl, fun j t ht => by
        rw [Eehg.params9] at ht
        have hm : t ∈ [9, 22, 9, 3, 4, 3, 4, 4, 4, 4, 4] := by simpa using Array.mem_of_getElem? ht
        have hall : ([9, 22, 9, 3, 4, 3, 4, 4, 4, 4, 4].all fun u => !Eehg.prog.wantsStandIn u) = true := by kernel_rfl
        exact (show Eehg.prog.wantsStandIn t = false by simpa using List.all_eq_true.1 hall t hm)⟩)
    (by kernel_rfl)

end Go.Proofs.YoeehwDoor
