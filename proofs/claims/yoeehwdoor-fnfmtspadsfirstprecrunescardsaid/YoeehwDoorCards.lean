/-
  DERIVED. GIVEN WITH THE SEED: THE CARDS: each row of YoeehwDoorRows.lean that lists a variable, with what it lists TIED to the program's text (the seventh form; the later family's looks); each row that meets fmt, with fmt's text TOLD by the authors' own Lean function (tested against real Go, not proved from fmt's source: count such statements apart). THE CARD IS WHAT COUNTS. Prove the row's statement (the work); the ties are given (YoeehwDoorTie.lean); close each card by the builder's one call (the guide's Derived/Test/ToyasCard.lean, 'card_holds'). Laid BY PROGRAM, IN A SANDBOX (cutbox-door.mjs). By AI agents, Wed Nov 11 2026. No macro, syntax, notation, axiom, sorry.
-/
import Derived.Test.YoeehwDoorRows
import GoSem.ClaimSeven
namespace Go.Proofs.YoeehwDoor
namespace Rows

/-- THE TIED CARD OF 'zzlaws_root_b3.FnTruncateFirstPrecRunes'. -/
def fnTruncateFirstPrecRunesCard : Claim7 := { stood := { row := fnTruncateFirstPrecRunesRow, standIns := [], harness := (true, "63cd15ac5b95ec4a0bc26a6ff6da8bb679fd43e02cf53a14780d01fa95f237ef"), looks := false }, kinds := [], alts := [], laidByText := true, laidKinds := [.data, .pinned], laidTests := true, laidLooks := .later }
def FnTruncateFirstPrecRunesCardSaid : Prop := Claim7.holds Eehg.pinned (.plain (OpenSpec.ofChange fnTruncateFirstPrecRunesSpec)) fnTruncateFirstPrecRunesCard

/-- THE TIED CARD OF 'zzlaws_root_b3.FnTruncateAgreesWithTruncateString'. -/
def fnTruncateAgreesWithTruncateStringCard : Claim7 := { stood := { row := fnTruncateAgreesWithTruncateStringRow, standIns := [], harness := (true, "63cd15ac5b95ec4a0bc26a6ff6da8bb679fd43e02cf53a14780d01fa95f237ef"), looks := false }, kinds := [], alts := [], laidByText := true, laidKinds := [.data, .pinned], laidTests := true, laidLooks := .later }
def FnTruncateAgreesWithTruncateStringCardSaid : Prop := Claim7.holds Eehg.pinned (.plain (OpenSpec.ofChange fnTruncateAgreesWithTruncateStringSpec)) fnTruncateAgreesWithTruncateStringCard

/-- THE TIED CARD OF 'zzlaws_root_b3.FnFmtSPadsFirstPrecRunes'. -/
def fnFmtSPadsFirstPrecRunesCard : Claim7 := { stood := { row := fnFmtSPadsFirstPrecRunesRow, standIns := [], harness := (true, "63cd15ac5b95ec4a0bc26a6ff6da8bb679fd43e02cf53a14780d01fa95f237ef"), looks := false }, kinds := [], alts := [], laidByText := true, laidKinds := [.called, .data], laidTests := true, laidLooks := .later }
def FnFmtSPadsFirstPrecRunesCardSaid : Prop := Claim7.holds Eehg.pinned (.plain (OpenSpec.ofChange fnFmtSPadsFirstPrecRunesSpec)) fnFmtSPadsFirstPrecRunesCard

/-- THE TIED CARD OF 'zzlaws_root_b3.FnFmtSLargerPrecisionExtends'. -/
def fnFmtSLargerPrecisionExtendsCard : Claim7 := { stood := { row := fnFmtSLargerPrecisionExtendsRow, standIns := [], harness := (true, "63cd15ac5b95ec4a0bc26a6ff6da8bb679fd43e02cf53a14780d01fa95f237ef"), looks := false }, kinds := [], alts := [], laidByText := true, laidKinds := [.called, .data], laidTests := true, laidLooks := .later }
def FnFmtSLargerPrecisionExtendsCardSaid : Prop := Claim7.holds Eehg.pinned (.plain (OpenSpec.ofChange fnFmtSLargerPrecisionExtendsSpec)) fnFmtSLargerPrecisionExtendsCard

/-- THE TIED CARD OF 'zzlaws_root_b3.FnFmtBsPadsFirstPrecRunes'. -/
def fnFmtBsPadsFirstPrecRunesCard : Claim7 := { stood := { row := fnFmtBsPadsFirstPrecRunesRow, standIns := [], harness := (true, "63cd15ac5b95ec4a0bc26a6ff6da8bb679fd43e02cf53a14780d01fa95f237ef"), looks := false }, kinds := [], alts := [], laidByText := true, laidKinds := [.data, .called, .data, .pinned], laidTests := true, laidLooks := .later }
def FnFmtBsPadsFirstPrecRunesCardSaid : Prop := Claim7.holds Eehg.pinned (.plain (OpenSpec.ofChange fnFmtBsPadsFirstPrecRunesSpec)) fnFmtBsPadsFirstPrecRunesCard

/-- THE TIED CARD OF 'zzlaws_root_b3.FnFmtBsAgreesWithFmtS'. -/
def fnFmtBsAgreesWithFmtSCard : Claim7 := { stood := { row := fnFmtBsAgreesWithFmtSRow, standIns := [], harness := (true, "63cd15ac5b95ec4a0bc26a6ff6da8bb679fd43e02cf53a14780d01fa95f237ef"), looks := false }, kinds := [], alts := [], laidByText := true, laidKinds := [.data, .called, .data, .pinned], laidTests := true, laidLooks := .later }
def FnFmtBsAgreesWithFmtSCardSaid : Prop := Claim7.holds Eehg.pinned (.plain (OpenSpec.ofChange fnFmtBsAgreesWithFmtSSpec)) fnFmtBsAgreesWithFmtSCard

/-- THE TIED CARD OF 'zzlaws_root_b3.FnFmtSbxHexModel'. -/
def fnFmtSbxHexModelCard : Claim7 := { stood := { row := fnFmtSbxHexModelRow, standIns := [], harness := (true, "63cd15ac5b95ec4a0bc26a6ff6da8bb679fd43e02cf53a14780d01fa95f237ef"), looks := false }, kinds := [], alts := [], laidByText := true, laidKinds := [.called, .data], laidTests := true, laidLooks := .later }
def FnFmtSbxHexModelCardSaid : Prop := Claim7.holds Eehg.pinned (.plain (OpenSpec.ofChange fnFmtSbxHexModelSpec)) fnFmtSbxHexModelCard

/-- THE TIED CARD OF 'zzlaws_root_b3.FnFmtSbxStringAgreesWithBytes'. -/
def fnFmtSbxStringAgreesWithBytesCard : Claim7 := { stood := { row := fnFmtSbxStringAgreesWithBytesRow, standIns := [], harness := (true, "63cd15ac5b95ec4a0bc26a6ff6da8bb679fd43e02cf53a14780d01fa95f237ef"), looks := false }, kinds := [], alts := [], laidByText := true, laidKinds := [.called, .data], laidTests := true, laidLooks := .later }
def FnFmtSbxStringAgreesWithBytesCardSaid : Prop := Claim7.holds Eehg.pinned (.plain (OpenSpec.ofChange fnFmtSbxStringAgreesWithBytesSpec)) fnFmtSbxStringAgreesWithBytesCard
end Rows
end Go.Proofs.YoeehwDoor
