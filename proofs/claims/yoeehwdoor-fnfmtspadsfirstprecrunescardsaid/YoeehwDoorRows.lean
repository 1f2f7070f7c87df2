/-
  NARROWER THAN 'FOR EVERY INPUT', by the rows' own cells (each row's printed sentence says how): FnTruncateFirstPrecRunes: laid · FnTruncateAgreesWithTruncateString: laid · FnFmtSPadsFirstPrecRunes: ifaces, laid · FnFmtSLargerPrecisionExtends: ifaces, laid · FnFmtBsPadsFirstPrecRunes: ifaces, laid · FnFmtBsAgreesWithFmtS: ifaces, laid · FnFmtSbxHexModel: ifaces, laid · FnFmtSbxStringAgreesWithBytes: ifaces, laid.
  DERIVED. THE GIVEN ROWS OF THIS SEAT. 8 by the template 'for every input the law returns true; each argument reads behind the call as it read before'; 0 by the template 'total and deterministic' (their statements: YoeehwDoorTotals.lean).
  GIVEN WITH THE SEED: the statements are not yours to turn. If you find one false, say at which input.
  Laid BY PROGRAM, IN A SANDBOX (cutbox-rows.mjs): the forced cells as the released guide's own fill.sh prints them over the translation 7e40ed53820229fb… (all of the seat's roots in one cut). By AI agents, Wed Nov 11 2026. No macro, syntax, notation, axiom, sorry.
-/
import Derived.Test.YoeehwDoorChecked
import GoSem.PinnedTables
import GoSem.Claim
import GoSem.ClaimJoined
import GoSem.ClaimMapViews
import Derived.JoinedTies
import Derived.KernelRfl
namespace Go.Proofs.YoeehwDoor
/- THE CELL 'sum', in the pinned program and in every row, IS THE sha256 OF THE DUMP (.gsa) THAT YoeehwDoorProg.lean LOADS. Nothing in Lean hashes anything: it is a label: what it is worth is what the hold of that sum in a sandbox is worth. -/
noncomputable def Eehg.pinned : Pinned := { name := "yoeehwdoor", sum := "7e40ed53820229fb201664792c4ba3b3cb6c59cd9285c9b95487e42a49e57568", checked := Eehg.checked }
namespace Rows
def none {H : Type} : Left H := { results := [], args := [] }

/- WHAT THE LISTED PACKAGE-LEVEL VARIABLES READ AS WHEN THE CALL BEGINS. Each datum BY PROGRAM (the guide's laid-datum.mjs) off the statement by which the dump's own 'gosem.cut.vars' lays the variable. In a bare row this is a premise. The card (YoeehwDoorCards.lean) ties it to the program's text. -/
def laid_unicode_utf8_acceptRanges {H : Type} : DataW H := .agg [.agg [.lit (.int .u8 128), .lit (.int .u8 191)], .agg [.lit (.int .u8 160), .lit (.int .u8 191)], .agg [.lit (.int .u8 128), .lit (.int .u8 159)], .agg [.lit (.int .u8 144), .lit (.int .u8 191)], .agg [.lit (.int .u8 128), .lit (.int .u8 143)], .agg [.lit (.int .u8 0), .lit (.int .u8 0)], .agg [.lit (.int .u8 0), .lit (.int .u8 0)], .agg [.lit (.int .u8 0), .lit (.int .u8 0)], .agg [.lit (.int .u8 0), .lit (.int .u8 0)], .agg [.lit (.int .u8 0), .lit (.int .u8 0)], .agg [.lit (.int .u8 0), .lit (.int .u8 0)], .agg [.lit (.int .u8 0), .lit (.int .u8 0)], .agg [.lit (.int .u8 0), .lit (.int .u8 0)], .agg [.lit (.int .u8 0), .lit (.int .u8 0)], .agg [.lit (.int .u8 0), .lit (.int .u8 0)], .agg [.lit (.int .u8 0), .lit (.int .u8 0)]]
/-- One of Go's own tables, pinned by name: the form's constant. -/
def laid_unicode_utf8_first : DataW Unit := Go.Pinned.utf8First
def laid_github_com_d5_tengo_v2_ErrStringLimit {H : Type} : DataW H := .iface "*errors.errorString" (.ptr (.agg [.lit (.string [101, 120, 99, 101, 101, 100, 105, 110, 103, 32, 115, 116, 114, 105, 110, 103, 32, 115, 105, 122, 101, 32, 108, 105, 109, 105, 116])]))
def laid_github_com_d5_tengo_v2_MaxStringLen {H : Type} : DataW H := .lit (.int .i64 2147483647)

/-- 'zzlaws_root_b3.FnTruncateFirstPrecRunes': WHATEVER THE INPUT: true; the input reads as it did. -/
def fnTruncateFirstPrecRunesSpec : ChangeSpec := { name := "fnTruncateFirstPrecRunes", fn := fun _ => fun
  | [d1, d2, d3] => { results := [.lit (.bool true)], args := [d1, d2, d3] }
  | _ => none }
def fnTruncateFirstPrecRunesRow : OpenClaim := { program := "yoeehwdoor", sum := "7e40ed53820229fb201664792c4ba3b3cb6c59cd9285c9b95487e42a49e57568", func := "github.com/d5/tengo/v2/zzlaws_root_b3.FnTruncateFirstPrecRunes", spec := "fnTruncateFirstPrecRunes", named := ["unicode/utf8.first", "unicode/utf8.acceptRanges"], apart := false, laid := [("unicode/utf8.acceptRanges", laid_unicode_utf8_acceptRanges), ("unicode/utf8.first", laid_unicode_utf8_first)] }
def FnTruncateFirstPrecRunesSaid : Prop := fnTruncateFirstPrecRunesRow.holds Eehg.pinned (OpenSpec.ofChange fnTruncateFirstPrecRunesSpec)

/-- ITS FALSE NEIGHBOUR: 'it returns false'. Refute it at one input. -/
def fnTruncateFirstPrecRunesWrong : ChangeSpec := { name := "fnTruncateFirstPrecRunes", fn := fun _ => fun
  | [d1, d2, d3] => { results := [.lit (.bool false)], args := [d1, d2, d3] }
  | _ => none }
def FnTruncateFirstPrecRunesWrongFalsely : Prop := fnTruncateFirstPrecRunesRow.holds Eehg.pinned (OpenSpec.ofChange fnTruncateFirstPrecRunesWrong)

/-- 'zzlaws_root_b3.FnTruncateAgreesWithTruncateString': WHATEVER THE INPUT: true; the input reads as it did. -/
def fnTruncateAgreesWithTruncateStringSpec : ChangeSpec := { name := "fnTruncateAgreesWithTruncateString", fn := fun _ => fun
  | [d1, d2, d3] => { results := [.lit (.bool true)], args := [d1, d2, d3] }
  | _ => none }
def fnTruncateAgreesWithTruncateStringRow : OpenClaim := { program := "yoeehwdoor", sum := "7e40ed53820229fb201664792c4ba3b3cb6c59cd9285c9b95487e42a49e57568", func := "github.com/d5/tengo/v2/zzlaws_root_b3.FnTruncateAgreesWithTruncateString", spec := "fnTruncateAgreesWithTruncateString", named := ["unicode/utf8.first", "unicode/utf8.acceptRanges"], apart := false, laid := [("unicode/utf8.acceptRanges", laid_unicode_utf8_acceptRanges), ("unicode/utf8.first", laid_unicode_utf8_first)] }
def FnTruncateAgreesWithTruncateStringSaid : Prop := fnTruncateAgreesWithTruncateStringRow.holds Eehg.pinned (OpenSpec.ofChange fnTruncateAgreesWithTruncateStringSpec)

/-- ITS FALSE NEIGHBOUR: 'it returns false'. Refute it at one input. -/
def fnTruncateAgreesWithTruncateStringWrong : ChangeSpec := { name := "fnTruncateAgreesWithTruncateString", fn := fun _ => fun
  | [d1, d2, d3] => { results := [.lit (.bool false)], args := [d1, d2, d3] }
  | _ => none }
def FnTruncateAgreesWithTruncateStringWrongFalsely : Prop := fnTruncateAgreesWithTruncateStringRow.holds Eehg.pinned (OpenSpec.ofChange fnTruncateAgreesWithTruncateStringWrong)

/-- 'zzlaws_root_b3.FnFmtSPadsFirstPrecRunes': WHATEVER THE INPUT: true; the input reads as it did. -/
def fnFmtSPadsFirstPrecRunesSpec : ChangeSpec := { name := "fnFmtSPadsFirstPrecRunes", vars := ["github.com/d5/tengo/v2.MaxStringLen", "github.com/d5/tengo/v2.ErrStringLimit"], fn := fun _ => fun
  | [d1, d2, d3, d4, d5, d6, d7, g1, g2] => { results := [.lit (.bool true)], args := [d1, d2, d3, d4, d5, d6, d7], vars := [g1, g2] }
  | _ => none }
def fnFmtSPadsFirstPrecRunesRow : OpenClaim := { program := "yoeehwdoor", sum := "7e40ed53820229fb201664792c4ba3b3cb6c59cd9285c9b95487e42a49e57568", func := "github.com/d5/tengo/v2/zzlaws_root_b3.FnFmtSPadsFirstPrecRunes", spec := "fnFmtSPadsFirstPrecRunes", named := ["github.com/d5/tengo/v2.MaxStringLen", "github.com/d5/tengo/v2.ErrStringLimit"], ifaces := true, apart := false, laid := [("github.com/d5/tengo/v2.ErrStringLimit", laid_github_com_d5_tengo_v2_ErrStringLimit), ("github.com/d5/tengo/v2.MaxStringLen", laid_github_com_d5_tengo_v2_MaxStringLen)] }
def FnFmtSPadsFirstPrecRunesSaid : Prop := fnFmtSPadsFirstPrecRunesRow.holds Eehg.pinned (OpenSpec.ofChange fnFmtSPadsFirstPrecRunesSpec)

/-- ITS FALSE NEIGHBOUR: 'it returns false'. Refute it at one input. -/
def fnFmtSPadsFirstPrecRunesWrong : ChangeSpec := { name := "fnFmtSPadsFirstPrecRunes", vars := ["github.com/d5/tengo/v2.MaxStringLen", "github.com/d5/tengo/v2.ErrStringLimit"], fn := fun _ => fun
  | [d1, d2, d3, d4, d5, d6, d7, g1, g2] => { results := [.lit (.bool false)], args := [d1, d2, d3, d4, d5, d6, d7], vars := [g1, g2] }
  | _ => none }
def FnFmtSPadsFirstPrecRunesWrongFalsely : Prop := fnFmtSPadsFirstPrecRunesRow.holds Eehg.pinned (OpenSpec.ofChange fnFmtSPadsFirstPrecRunesWrong)

/-- 'zzlaws_root_b3.FnFmtSLargerPrecisionExtends': WHATEVER THE INPUT: true; the input reads as it did. -/
def fnFmtSLargerPrecisionExtendsSpec : ChangeSpec := { name := "fnFmtSLargerPrecisionExtends", vars := ["github.com/d5/tengo/v2.MaxStringLen", "github.com/d5/tengo/v2.ErrStringLimit"], fn := fun _ => fun
  | [d1, d2, d3, g1, g2] => { results := [.lit (.bool true)], args := [d1, d2, d3], vars := [g1, g2] }
  | _ => none }
def fnFmtSLargerPrecisionExtendsRow : OpenClaim := { program := "yoeehwdoor", sum := "7e40ed53820229fb201664792c4ba3b3cb6c59cd9285c9b95487e42a49e57568", func := "github.com/d5/tengo/v2/zzlaws_root_b3.FnFmtSLargerPrecisionExtends", spec := "fnFmtSLargerPrecisionExtends", named := ["github.com/d5/tengo/v2.MaxStringLen", "github.com/d5/tengo/v2.ErrStringLimit"], ifaces := true, apart := false, laid := [("github.com/d5/tengo/v2.ErrStringLimit", laid_github_com_d5_tengo_v2_ErrStringLimit), ("github.com/d5/tengo/v2.MaxStringLen", laid_github_com_d5_tengo_v2_MaxStringLen)] }
def FnFmtSLargerPrecisionExtendsSaid : Prop := fnFmtSLargerPrecisionExtendsRow.holds Eehg.pinned (OpenSpec.ofChange fnFmtSLargerPrecisionExtendsSpec)

/-- ITS FALSE NEIGHBOUR: 'it returns false'. Refute it at one input. -/
def fnFmtSLargerPrecisionExtendsWrong : ChangeSpec := { name := "fnFmtSLargerPrecisionExtends", vars := ["github.com/d5/tengo/v2.MaxStringLen", "github.com/d5/tengo/v2.ErrStringLimit"], fn := fun _ => fun
  | [d1, d2, d3, g1, g2] => { results := [.lit (.bool false)], args := [d1, d2, d3], vars := [g1, g2] }
  | _ => none }
def FnFmtSLargerPrecisionExtendsWrongFalsely : Prop := fnFmtSLargerPrecisionExtendsRow.holds Eehg.pinned (OpenSpec.ofChange fnFmtSLargerPrecisionExtendsWrong)

/-- 'zzlaws_root_b3.FnFmtBsPadsFirstPrecRunes': WHATEVER THE INPUT: true; the input reads as it did. -/
def fnFmtBsPadsFirstPrecRunesSpec : ChangeSpec := { name := "fnFmtBsPadsFirstPrecRunes", vars := ["github.com/d5/tengo/v2.MaxStringLen", "github.com/d5/tengo/v2.ErrStringLimit"], fn := fun _ => fun
  | [d1, d2, d3, d4, d5, d6, d7, g1, g2] => { results := [.lit (.bool true)], args := [d1, d2, d3, d4, d5, d6, d7], vars := [g1, g2] }
  | _ => none }
def fnFmtBsPadsFirstPrecRunesRow : OpenClaim := { program := "yoeehwdoor", sum := "7e40ed53820229fb201664792c4ba3b3cb6c59cd9285c9b95487e42a49e57568", func := "github.com/d5/tengo/v2/zzlaws_root_b3.FnFmtBsPadsFirstPrecRunes", spec := "fnFmtBsPadsFirstPrecRunes", named := ["unicode/utf8.first", "unicode/utf8.acceptRanges", "github.com/d5/tengo/v2.MaxStringLen", "github.com/d5/tengo/v2.ErrStringLimit"], ifaces := true, apart := false, laid := [("unicode/utf8.acceptRanges", laid_unicode_utf8_acceptRanges), ("github.com/d5/tengo/v2.ErrStringLimit", laid_github_com_d5_tengo_v2_ErrStringLimit), ("github.com/d5/tengo/v2.MaxStringLen", laid_github_com_d5_tengo_v2_MaxStringLen), ("unicode/utf8.first", laid_unicode_utf8_first)] }
def FnFmtBsPadsFirstPrecRunesSaid : Prop := fnFmtBsPadsFirstPrecRunesRow.holds Eehg.pinned (OpenSpec.ofChange fnFmtBsPadsFirstPrecRunesSpec)

/-- ITS FALSE NEIGHBOUR: 'it returns false'. Refute it at one input. -/
def fnFmtBsPadsFirstPrecRunesWrong : ChangeSpec := { name := "fnFmtBsPadsFirstPrecRunes", vars := ["github.com/d5/tengo/v2.MaxStringLen", "github.com/d5/tengo/v2.ErrStringLimit"], fn := fun _ => fun
  | [d1, d2, d3, d4, d5, d6, d7, g1, g2] => { results := [.lit (.bool false)], args := [d1, d2, d3, d4, d5, d6, d7], vars := [g1, g2] }
  | _ => none }
def FnFmtBsPadsFirstPrecRunesWrongFalsely : Prop := fnFmtBsPadsFirstPrecRunesRow.holds Eehg.pinned (OpenSpec.ofChange fnFmtBsPadsFirstPrecRunesWrong)

/-- 'zzlaws_root_b3.FnFmtBsAgreesWithFmtS': WHATEVER THE INPUT: true; the input reads as it did. -/
def fnFmtBsAgreesWithFmtSSpec : ChangeSpec := { name := "fnFmtBsAgreesWithFmtS", vars := ["github.com/d5/tengo/v2.MaxStringLen", "github.com/d5/tengo/v2.ErrStringLimit"], fn := fun _ => fun
  | [d1, d2, d3, d4, d5, d6, d7, g1, g2] => { results := [.lit (.bool true)], args := [d1, d2, d3, d4, d5, d6, d7], vars := [g1, g2] }
  | _ => none }
def fnFmtBsAgreesWithFmtSRow : OpenClaim := { program := "yoeehwdoor", sum := "7e40ed53820229fb201664792c4ba3b3cb6c59cd9285c9b95487e42a49e57568", func := "github.com/d5/tengo/v2/zzlaws_root_b3.FnFmtBsAgreesWithFmtS", spec := "fnFmtBsAgreesWithFmtS", named := ["unicode/utf8.first", "unicode/utf8.acceptRanges", "github.com/d5/tengo/v2.MaxStringLen", "github.com/d5/tengo/v2.ErrStringLimit"], ifaces := true, apart := false, laid := [("unicode/utf8.acceptRanges", laid_unicode_utf8_acceptRanges), ("github.com/d5/tengo/v2.ErrStringLimit", laid_github_com_d5_tengo_v2_ErrStringLimit), ("github.com/d5/tengo/v2.MaxStringLen", laid_github_com_d5_tengo_v2_MaxStringLen), ("unicode/utf8.first", laid_unicode_utf8_first)] }
def FnFmtBsAgreesWithFmtSSaid : Prop := fnFmtBsAgreesWithFmtSRow.holds Eehg.pinned (OpenSpec.ofChange fnFmtBsAgreesWithFmtSSpec)

/-- ITS FALSE NEIGHBOUR: 'it returns false'. Refute it at one input. -/
def fnFmtBsAgreesWithFmtSWrong : ChangeSpec := { name := "fnFmtBsAgreesWithFmtS", vars := ["github.com/d5/tengo/v2.MaxStringLen", "github.com/d5/tengo/v2.ErrStringLimit"], fn := fun _ => fun
  | [d1, d2, d3, d4, d5, d6, d7, g1, g2] => { results := [.lit (.bool false)], args := [d1, d2, d3, d4, d5, d6, d7], vars := [g1, g2] }
  | _ => none }
def FnFmtBsAgreesWithFmtSWrongFalsely : Prop := fnFmtBsAgreesWithFmtSRow.holds Eehg.pinned (OpenSpec.ofChange fnFmtBsAgreesWithFmtSWrong)

/-- 'zzlaws_root_b3.FnFmtSbxHexModel': WHATEVER THE INPUT: true; the input reads as it did. -/
def fnFmtSbxHexModelSpec : ChangeSpec := { name := "fnFmtSbxHexModel", vars := ["github.com/d5/tengo/v2.MaxStringLen", "github.com/d5/tengo/v2.ErrStringLimit"], fn := fun _ => fun
  | [d1, d2, d3, d4, d5, d6, d7, d8, d9, d10, d11, g1, g2] => { results := [.lit (.bool true)], args := [d1, d2, d3, d4, d5, d6, d7, d8, d9, d10, d11], vars := [g1, g2] }
  | _ => none }
def fnFmtSbxHexModelRow : OpenClaim := { program := "yoeehwdoor", sum := "7e40ed53820229fb201664792c4ba3b3cb6c59cd9285c9b95487e42a49e57568", func := "github.com/d5/tengo/v2/zzlaws_root_b3.FnFmtSbxHexModel", spec := "fnFmtSbxHexModel", named := ["github.com/d5/tengo/v2.MaxStringLen", "github.com/d5/tengo/v2.ErrStringLimit"], ifaces := true, apart := false, laid := [("github.com/d5/tengo/v2.ErrStringLimit", laid_github_com_d5_tengo_v2_ErrStringLimit), ("github.com/d5/tengo/v2.MaxStringLen", laid_github_com_d5_tengo_v2_MaxStringLen)] }
def FnFmtSbxHexModelSaid : Prop := fnFmtSbxHexModelRow.holds Eehg.pinned (OpenSpec.ofChange fnFmtSbxHexModelSpec)

/-- ITS FALSE NEIGHBOUR: 'it returns false'. Refute it at one input. -/
def fnFmtSbxHexModelWrong : ChangeSpec := { name := "fnFmtSbxHexModel", vars := ["github.com/d5/tengo/v2.MaxStringLen", "github.com/d5/tengo/v2.ErrStringLimit"], fn := fun _ => fun
  | [d1, d2, d3, d4, d5, d6, d7, d8, d9, d10, d11, g1, g2] => { results := [.lit (.bool false)], args := [d1, d2, d3, d4, d5, d6, d7, d8, d9, d10, d11], vars := [g1, g2] }
  | _ => none }
def FnFmtSbxHexModelWrongFalsely : Prop := fnFmtSbxHexModelRow.holds Eehg.pinned (OpenSpec.ofChange fnFmtSbxHexModelWrong)

/-- 'zzlaws_root_b3.FnFmtSbxStringAgreesWithBytes': WHATEVER THE INPUT: true; the input reads as it did. -/
def fnFmtSbxStringAgreesWithBytesSpec : ChangeSpec := { name := "fnFmtSbxStringAgreesWithBytes", vars := ["github.com/d5/tengo/v2.MaxStringLen", "github.com/d5/tengo/v2.ErrStringLimit"], fn := fun _ => fun
  | [d1, d2, d3, d4, d5, d6, d7, d8, d9, d10, g1, g2] => { results := [.lit (.bool true)], args := [d1, d2, d3, d4, d5, d6, d7, d8, d9, d10], vars := [g1, g2] }
  | _ => none }
def fnFmtSbxStringAgreesWithBytesRow : OpenClaim := { program := "yoeehwdoor", sum := "7e40ed53820229fb201664792c4ba3b3cb6c59cd9285c9b95487e42a49e57568", func := "github.com/d5/tengo/v2/zzlaws_root_b3.FnFmtSbxStringAgreesWithBytes", spec := "fnFmtSbxStringAgreesWithBytes", named := ["github.com/d5/tengo/v2.MaxStringLen", "github.com/d5/tengo/v2.ErrStringLimit"], ifaces := true, apart := false, laid := [("github.com/d5/tengo/v2.ErrStringLimit", laid_github_com_d5_tengo_v2_ErrStringLimit), ("github.com/d5/tengo/v2.MaxStringLen", laid_github_com_d5_tengo_v2_MaxStringLen)] }
def FnFmtSbxStringAgreesWithBytesSaid : Prop := fnFmtSbxStringAgreesWithBytesRow.holds Eehg.pinned (OpenSpec.ofChange fnFmtSbxStringAgreesWithBytesSpec)

/-- ITS FALSE NEIGHBOUR: 'it returns false'. Refute it at one input. -/
def fnFmtSbxStringAgreesWithBytesWrong : ChangeSpec := { name := "fnFmtSbxStringAgreesWithBytes", vars := ["github.com/d5/tengo/v2.MaxStringLen", "github.com/d5/tengo/v2.ErrStringLimit"], fn := fun _ => fun
  | [d1, d2, d3, d4, d5, d6, d7, d8, d9, d10, g1, g2] => { results := [.lit (.bool false)], args := [d1, d2, d3, d4, d5, d6, d7, d8, d9, d10], vars := [g1, g2] }
  | _ => none }
def FnFmtSbxStringAgreesWithBytesWrongFalsely : Prop := fnFmtSbxStringAgreesWithBytesRow.holds Eehg.pinned (OpenSpec.ofChange fnFmtSbxStringAgreesWithBytesWrong)

end Rows
end Go.Proofs.YoeehwDoor
