/-
  DERIVED. GIVEN WITH THE SEED: THE PROGRAM's TIES (one call each: nine closed facts by the kernel) AND EACH ROW's TIE, after the 31st guide's Derived/Test/Toyas{Tie, Card}.lean. No idea stands in it: it is a product of the set-up. Laid BY PROGRAM, IN A SANDBOX (cutbox-door.mjs). By AI agents, Wed Nov 11 2026. No macro, syntax, notation, axiom, sorry.
-/
import Derived.Test.YoeehwDoorRows
import Derived.LaidByTextLater
import Derived.SevenTiedAt
import Derived.LaidSub
import Derived.LaidOnce
namespace Go.Proofs.YoeehwDoor
open Go
set_option maxRecDepth 100000
theorem seatTie1 : Eehg.prog.laidByTextLater [("unicode/utf8.acceptRanges", Rows.laid_unicode_utf8_acceptRanges), ("github.com/d5/tengo/v2.ErrStringLimit", Rows.laid_github_com_d5_tengo_v2_ErrStringLimit), ("github.com/d5/tengo/v2.MaxStringLen", Rows.laid_github_com_d5_tengo_v2_MaxStringLen)] [.data, .called, .data] true :=
  Program.laidByTextLater_by_one 42 8 33 (by kernel_rfl) (by kernel_rfl) (by kernel_rfl) (by kernel_rfl) (by kernel_rfl) (by kernel_rfl) (fun _ _ => by kernel_rfl)
theorem pin_laid_unicode_utf8_first : Eehg.pinned.checked.prog.pinnedFits "unicode/utf8.first" = true := by kernel_rfl
theorem noOwnUnsafe : Eehg.pinned.checked.prog.headLifts.contains "ownunsafe" = false := by kernel_rfl
theorem fits1 : Eehg.pinned.checked.prog.listedFits [("unicode/utf8.acceptRanges", Rows.laid_unicode_utf8_acceptRanges), ("unicode/utf8.first", Rows.laid_unicode_utf8_first)] = true := by
  unfold Program.listedFits
  rw [noOwnUnsafe]
  kernel_rfl
theorem tie : Eehg.prog.laidByTextLater [("unicode/utf8.acceptRanges", Rows.laid_unicode_utf8_acceptRanges)] [.data] true :=
  Program.laidByTextLater.sub seatTie1 ["unicode/utf8.acceptRanges"] (by kernel_rfl) (by kernel_rfl)
theorem fnTruncateFirstPrecRunes_row_tie : Rows.fnTruncateFirstPrecRunesRow.laidByTextAt .later Eehg.pinned [.data, .pinned] true :=
  OpenClaim.laidByTextAt_pinned rfl rfl tie rfl rfl rfl rfl (fun y hy _e => by
    simp only [Rows.fnTruncateFirstPrecRunesRow, List.zip_cons_cons, List.zip_nil_right, List.mem_cons, List.mem_nil_iff, or_false] at hy
    rcases hy with rfl | rfl
    · cases _e
    · exact ⟨pin_laid_unicode_utf8_first, by kernel_rfl⟩) fits1
theorem fnTruncateAgreesWithTruncateString_row_tie : Rows.fnTruncateAgreesWithTruncateStringRow.laidByTextAt .later Eehg.pinned [.data, .pinned] true :=
  OpenClaim.laidByTextAt_pinned rfl rfl tie rfl rfl rfl rfl (fun y hy _e => by
    simp only [Rows.fnTruncateAgreesWithTruncateStringRow, List.zip_cons_cons, List.zip_nil_right, List.mem_cons, List.mem_nil_iff, or_false] at hy
    rcases hy with rfl | rfl
    · cases _e
    · exact ⟨pin_laid_unicode_utf8_first, by kernel_rfl⟩) fits1
theorem tie2 : Eehg.prog.laidByTextLater [("github.com/d5/tengo/v2.ErrStringLimit", Rows.laid_github_com_d5_tengo_v2_ErrStringLimit), ("github.com/d5/tengo/v2.MaxStringLen", Rows.laid_github_com_d5_tengo_v2_MaxStringLen)] [.called, .data] true :=
  Program.laidByTextLater.sub seatTie1 ["github.com/d5/tengo/v2.ErrStringLimit", "github.com/d5/tengo/v2.MaxStringLen"] (by kernel_rfl) (by kernel_rfl)
theorem fnFmtSPadsFirstPrecRunes_row_tie : Rows.fnFmtSPadsFirstPrecRunesRow.laidByTextAt .later Eehg.pinned [.called, .data] true :=
  OpenClaim.laidByTextAt_later rfl rfl tie2 noOwnUnsafe
theorem fnFmtSLargerPrecisionExtends_row_tie : Rows.fnFmtSLargerPrecisionExtendsRow.laidByTextAt .later Eehg.pinned [.called, .data] true :=
  OpenClaim.laidByTextAt_later rfl rfl tie2 noOwnUnsafe
theorem fnFmtSbxHexModel_row_tie : Rows.fnFmtSbxHexModelRow.laidByTextAt .later Eehg.pinned [.called, .data] true :=
  OpenClaim.laidByTextAt_later rfl rfl tie2 noOwnUnsafe
theorem fnFmtSbxStringAgreesWithBytes_row_tie : Rows.fnFmtSbxStringAgreesWithBytesRow.laidByTextAt .later Eehg.pinned [.called, .data] true :=
  OpenClaim.laidByTextAt_later rfl rfl tie2 noOwnUnsafe
theorem fits3 : Eehg.pinned.checked.prog.listedFits [("unicode/utf8.acceptRanges", Rows.laid_unicode_utf8_acceptRanges), ("github.com/d5/tengo/v2.ErrStringLimit", Rows.laid_github_com_d5_tengo_v2_ErrStringLimit), ("github.com/d5/tengo/v2.MaxStringLen", Rows.laid_github_com_d5_tengo_v2_MaxStringLen), ("unicode/utf8.first", Rows.laid_unicode_utf8_first)] = true := by
  unfold Program.listedFits
  rw [noOwnUnsafe]
  kernel_rfl
theorem tie3 : Eehg.prog.laidByTextLater [("unicode/utf8.acceptRanges", Rows.laid_unicode_utf8_acceptRanges), ("github.com/d5/tengo/v2.ErrStringLimit", Rows.laid_github_com_d5_tengo_v2_ErrStringLimit), ("github.com/d5/tengo/v2.MaxStringLen", Rows.laid_github_com_d5_tengo_v2_MaxStringLen)] [.data, .called, .data] true :=
  Program.laidByTextLater.sub seatTie1 ["unicode/utf8.acceptRanges", "github.com/d5/tengo/v2.ErrStringLimit", "github.com/d5/tengo/v2.MaxStringLen"] (by kernel_rfl) (by kernel_rfl)
theorem fnFmtBsPadsFirstPrecRunes_row_tie : Rows.fnFmtBsPadsFirstPrecRunesRow.laidByTextAt .later Eehg.pinned [.data, .called, .data, .pinned] true :=
  OpenClaim.laidByTextAt_pinned rfl rfl tie3 rfl rfl rfl rfl (fun y hy _e => by
    simp only [Rows.fnFmtBsPadsFirstPrecRunesRow, List.zip_cons_cons, List.zip_nil_right, List.mem_cons, List.mem_nil_iff, or_false] at hy
    rcases hy with rfl | rfl | rfl | rfl
    · cases _e
    · cases _e
    · cases _e
    · exact ⟨pin_laid_unicode_utf8_first, by kernel_rfl⟩) fits3
theorem fnFmtBsAgreesWithFmtS_row_tie : Rows.fnFmtBsAgreesWithFmtSRow.laidByTextAt .later Eehg.pinned [.data, .called, .data, .pinned] true :=
  OpenClaim.laidByTextAt_pinned rfl rfl tie3 rfl rfl rfl rfl (fun y hy _e => by
    simp only [Rows.fnFmtBsAgreesWithFmtSRow, List.zip_cons_cons, List.zip_nil_right, List.mem_cons, List.mem_nil_iff, or_false] at hy
    rcases hy with rfl | rfl | rfl | rfl
    · cases _e
    · cases _e
    · cases _e
    · exact ⟨pin_laid_unicode_utf8_first, by kernel_rfl⟩) fits3
end Go.Proofs.YoeehwDoor
