/-
  NARROWER THAN 'FOR EVERY INPUT', by the rows' own cells (each row's printed sentence says how): FnWouldStart: laid · FnIdentEnd: laid · FnDecoded: laid · FnDecodedInPieces: laid · FnEscapedIsDecoded: laid · FnIdentDecoded: laid · FnStringDecoded: laid.
  DERIVED. THE GIVEN ROWS OF THIS SEAT. 7 by the template 'for every input the law returns true; each argument reads behind the call as it read before'; 0 by the template 'total and deterministic' (their statements: YtmgkccnfhkcncaaDoorTotals.lean).
  GIVEN WITH THE SEED: the statements are not yours to turn. If you find one false, say at which input.
  Laid BY PROGRAM, IN A SANDBOX (cutbox-rows.mjs): the forced cells as the released guide's own fill.sh prints them over the translation a3ddd96577317c87… (all of the seat's roots in one cut). By AI agents, Wed Nov 11 2026. No macro, syntax, notation, axiom, sorry.
-/
import Derived.Test.YtmgkccnfhkcncaaDoorChecked
import GoSem.PinnedTables
import GoSem.Claim
import GoSem.ClaimJoined
import GoSem.ClaimMapViews
import Derived.JoinedTies
import Derived.KernelRfl
namespace Go.Proofs.YtmgkccnfhkcncaaDoor
/- THE CELL 'sum', in the pinned program and in every row, IS THE sha256 OF THE DUMP (.gsa) THAT YtmgkccnfhkcncaaDoorProg.lean LOADS. Nothing in Lean hashes anything: it is a label: what it is worth is what the hold of that sum in a sandbox is worth. -/
noncomputable def Tryd.pinned : Pinned := { name := "ytmgkccnfhkcncaadoor", sum := "a3ddd96577317c87328a3b880395d2e98394410ab72224bb0e314605f2039539", checked := Tryd.checked }
namespace Rows
def none {H : Type} : Left H := { results := [], args := [] }

/- WHAT THE LISTED PACKAGE-LEVEL VARIABLES READ AS WHEN THE CALL BEGINS. Each datum BY PROGRAM (the guide's laid-datum.mjs) off the statement by which the dump's own 'gosem.cut.vars' lays the variable. In a bare row this is a premise. The card (YtmgkccnfhkcncaaDoorCards.lean) ties it to the program's text. -/
def laid_unicode_utf8_acceptRanges {H : Type} : DataW H := .agg [.agg [.lit (.int .u8 128), .lit (.int .u8 191)], .agg [.lit (.int .u8 160), .lit (.int .u8 191)], .agg [.lit (.int .u8 128), .lit (.int .u8 159)], .agg [.lit (.int .u8 144), .lit (.int .u8 191)], .agg [.lit (.int .u8 128), .lit (.int .u8 143)], .agg [.lit (.int .u8 0), .lit (.int .u8 0)], .agg [.lit (.int .u8 0), .lit (.int .u8 0)], .agg [.lit (.int .u8 0), .lit (.int .u8 0)], .agg [.lit (.int .u8 0), .lit (.int .u8 0)], .agg [.lit (.int .u8 0), .lit (.int .u8 0)], .agg [.lit (.int .u8 0), .lit (.int .u8 0)], .agg [.lit (.int .u8 0), .lit (.int .u8 0)], .agg [.lit (.int .u8 0), .lit (.int .u8 0)], .agg [.lit (.int .u8 0), .lit (.int .u8 0)], .agg [.lit (.int .u8 0), .lit (.int .u8 0)], .agg [.lit (.int .u8 0), .lit (.int .u8 0)]]
/-- One of Go's own tables, pinned by name: the form's constant. -/
def laid_unicode_utf8_first : DataW Unit := Go.Pinned.utf8First

/-- 'laws.FnWouldStart': WHATEVER THE INPUT: true; the input reads as it did. -/
def fnWouldStartSpec : ChangeSpec := { name := "fnWouldStart", fn := fun _ => fun
  | [d] => { results := [.lit (.bool true)], args := [d] }
  | _ => none }
def fnWouldStartRow : OpenClaim := { program := "ytmgkccnfhkcncaadoor", sum := "a3ddd96577317c87328a3b880395d2e98394410ab72224bb0e314605f2039539", func := "sheettokens/laws.FnWouldStart", spec := "fnWouldStart", named := ["unicode/utf8.first", "unicode/utf8.acceptRanges"], apart := false, laid := [("unicode/utf8.acceptRanges", laid_unicode_utf8_acceptRanges), ("unicode/utf8.first", laid_unicode_utf8_first)] }
def FnWouldStartSaid : Prop := fnWouldStartRow.holds Tryd.pinned (OpenSpec.ofChange fnWouldStartSpec)

/-- ITS FALSE NEIGHBOUR: 'it returns false'. Refute it at one input. -/
def fnWouldStartWrong : ChangeSpec := { name := "fnWouldStart", fn := fun _ => fun
  | [d] => { results := [.lit (.bool false)], args := [d] }
  | _ => none }
def FnWouldStartWrongFalsely : Prop := fnWouldStartRow.holds Tryd.pinned (OpenSpec.ofChange fnWouldStartWrong)

/-- 'laws.FnIdentEnd': WHATEVER THE INPUT: true; the input reads as it did. -/
def fnIdentEndSpec : ChangeSpec := { name := "fnIdentEnd", fn := fun _ => fun
  | [d1, d2] => { results := [.lit (.bool true)], args := [d1, d2] }
  | _ => none }
def fnIdentEndRow : OpenClaim := { program := "ytmgkccnfhkcncaadoor", sum := "a3ddd96577317c87328a3b880395d2e98394410ab72224bb0e314605f2039539", func := "sheettokens/laws.FnIdentEnd", spec := "fnIdentEnd", named := ["unicode/utf8.first", "unicode/utf8.acceptRanges"], apart := false, laid := [("unicode/utf8.acceptRanges", laid_unicode_utf8_acceptRanges), ("unicode/utf8.first", laid_unicode_utf8_first)] }
def FnIdentEndSaid : Prop := fnIdentEndRow.holds Tryd.pinned (OpenSpec.ofChange fnIdentEndSpec)

/-- ITS FALSE NEIGHBOUR: 'it returns false'. Refute it at one input. -/
def fnIdentEndWrong : ChangeSpec := { name := "fnIdentEnd", fn := fun _ => fun
  | [d1, d2] => { results := [.lit (.bool false)], args := [d1, d2] }
  | _ => none }
def FnIdentEndWrongFalsely : Prop := fnIdentEndRow.holds Tryd.pinned (OpenSpec.ofChange fnIdentEndWrong)

/-- 'laws.FnDecoded': WHATEVER THE INPUT: true; the input reads as it did. -/
def fnDecodedSpec : ChangeSpec := { name := "fnDecoded", fn := fun _ => fun
  | [d] => { results := [.lit (.bool true)], args := [d] }
  | _ => none }
def fnDecodedRow : OpenClaim := { program := "ytmgkccnfhkcncaadoor", sum := "a3ddd96577317c87328a3b880395d2e98394410ab72224bb0e314605f2039539", func := "sheettokens/laws.FnDecoded", spec := "fnDecoded", inPlace := ["internal/abi.NoEscape"], named := ["unicode/utf8.first", "unicode/utf8.acceptRanges"], apart := false, laid := [("unicode/utf8.acceptRanges", laid_unicode_utf8_acceptRanges), ("unicode/utf8.first", laid_unicode_utf8_first)] }
def FnDecodedSaid : Prop := fnDecodedRow.holds Tryd.pinned (OpenSpec.ofChange fnDecodedSpec)

/-- ITS FALSE NEIGHBOUR: 'it returns false'. Refute it at one input. -/
def fnDecodedWrong : ChangeSpec := { name := "fnDecoded", fn := fun _ => fun
  | [d] => { results := [.lit (.bool false)], args := [d] }
  | _ => none }
def FnDecodedWrongFalsely : Prop := fnDecodedRow.holds Tryd.pinned (OpenSpec.ofChange fnDecodedWrong)

/-- 'laws.FnDecodedInPieces': WHATEVER THE INPUT: true; the input reads as it did. -/
def fnDecodedInPiecesSpec : ChangeSpec := { name := "fnDecodedInPieces", fn := fun _ => fun
  | [d1, d2] => { results := [.lit (.bool true)], args := [d1, d2] }
  | _ => none }
def fnDecodedInPiecesRow : OpenClaim := { program := "ytmgkccnfhkcncaadoor", sum := "a3ddd96577317c87328a3b880395d2e98394410ab72224bb0e314605f2039539", func := "sheettokens/laws.FnDecodedInPieces", spec := "fnDecodedInPieces", inPlace := ["internal/abi.NoEscape"], named := ["unicode/utf8.first", "unicode/utf8.acceptRanges"], apart := false, laid := [("unicode/utf8.acceptRanges", laid_unicode_utf8_acceptRanges), ("unicode/utf8.first", laid_unicode_utf8_first)] }
def FnDecodedInPiecesSaid : Prop := fnDecodedInPiecesRow.holds Tryd.pinned (OpenSpec.ofChange fnDecodedInPiecesSpec)

/-- ITS FALSE NEIGHBOUR: 'it returns false'. Refute it at one input. -/
def fnDecodedInPiecesWrong : ChangeSpec := { name := "fnDecodedInPieces", fn := fun _ => fun
  | [d1, d2] => { results := [.lit (.bool false)], args := [d1, d2] }
  | _ => none }
def FnDecodedInPiecesWrongFalsely : Prop := fnDecodedInPiecesRow.holds Tryd.pinned (OpenSpec.ofChange fnDecodedInPiecesWrong)

/-- 'laws.FnEscapedIsDecoded': WHATEVER THE INPUT: true; the input reads as it did. -/
def fnEscapedIsDecodedSpec : ChangeSpec := { name := "fnEscapedIsDecoded", fn := fun _ => fun
  | [d1, d2] => { results := [.lit (.bool true)], args := [d1, d2] }
  | _ => none }
def fnEscapedIsDecodedRow : OpenClaim := { program := "ytmgkccnfhkcncaadoor", sum := "a3ddd96577317c87328a3b880395d2e98394410ab72224bb0e314605f2039539", func := "sheettokens/laws.FnEscapedIsDecoded", spec := "fnEscapedIsDecoded", inPlace := ["internal/abi.NoEscape"], named := ["unicode/utf8.first", "unicode/utf8.acceptRanges"], apart := false, laid := [("unicode/utf8.acceptRanges", laid_unicode_utf8_acceptRanges), ("unicode/utf8.first", laid_unicode_utf8_first)] }
def FnEscapedIsDecodedSaid : Prop := fnEscapedIsDecodedRow.holds Tryd.pinned (OpenSpec.ofChange fnEscapedIsDecodedSpec)

/-- ITS FALSE NEIGHBOUR: 'it returns false'. Refute it at one input. -/
def fnEscapedIsDecodedWrong : ChangeSpec := { name := "fnEscapedIsDecoded", fn := fun _ => fun
  | [d1, d2] => { results := [.lit (.bool false)], args := [d1, d2] }
  | _ => none }
def FnEscapedIsDecodedWrongFalsely : Prop := fnEscapedIsDecodedRow.holds Tryd.pinned (OpenSpec.ofChange fnEscapedIsDecodedWrong)

/-- 'laws.FnIdentDecoded': WHATEVER THE INPUT: true; the input reads as it did. -/
def fnIdentDecodedSpec : ChangeSpec := { name := "fnIdentDecoded", fn := fun _ => fun
  | [d] => { results := [.lit (.bool true)], args := [d] }
  | _ => none }
def fnIdentDecodedRow : OpenClaim := { program := "ytmgkccnfhkcncaadoor", sum := "a3ddd96577317c87328a3b880395d2e98394410ab72224bb0e314605f2039539", func := "sheettokens/laws.FnIdentDecoded", spec := "fnIdentDecoded", inPlace := ["internal/abi.NoEscape"], named := ["unicode/utf8.first", "unicode/utf8.acceptRanges"], apart := false, laid := [("unicode/utf8.acceptRanges", laid_unicode_utf8_acceptRanges), ("unicode/utf8.first", laid_unicode_utf8_first)] }
def FnIdentDecodedSaid : Prop := fnIdentDecodedRow.holds Tryd.pinned (OpenSpec.ofChange fnIdentDecodedSpec)

/-- ITS FALSE NEIGHBOUR: 'it returns false'. Refute it at one input. -/
def fnIdentDecodedWrong : ChangeSpec := { name := "fnIdentDecoded", fn := fun _ => fun
  | [d] => { results := [.lit (.bool false)], args := [d] }
  | _ => none }
def FnIdentDecodedWrongFalsely : Prop := fnIdentDecodedRow.holds Tryd.pinned (OpenSpec.ofChange fnIdentDecodedWrong)

/-- 'laws.FnStringDecoded': WHATEVER THE INPUT: true; the input reads as it did. -/
def fnStringDecodedSpec : ChangeSpec := { name := "fnStringDecoded", fn := fun _ => fun
  | [d] => { results := [.lit (.bool true)], args := [d] }
  | _ => none }
def fnStringDecodedRow : OpenClaim := { program := "ytmgkccnfhkcncaadoor", sum := "a3ddd96577317c87328a3b880395d2e98394410ab72224bb0e314605f2039539", func := "sheettokens/laws.FnStringDecoded", spec := "fnStringDecoded", inPlace := ["internal/abi.NoEscape"], named := ["unicode/utf8.first", "unicode/utf8.acceptRanges"], apart := false, laid := [("unicode/utf8.acceptRanges", laid_unicode_utf8_acceptRanges), ("unicode/utf8.first", laid_unicode_utf8_first)] }
def FnStringDecodedSaid : Prop := fnStringDecodedRow.holds Tryd.pinned (OpenSpec.ofChange fnStringDecodedSpec)

/-- ITS FALSE NEIGHBOUR: 'it returns false'. Refute it at one input. -/
def fnStringDecodedWrong : ChangeSpec := { name := "fnStringDecoded", fn := fun _ => fun
  | [d] => { results := [.lit (.bool false)], args := [d] }
  | _ => none }
def FnStringDecodedWrongFalsely : Prop := fnStringDecodedRow.holds Tryd.pinned (OpenSpec.ofChange fnStringDecodedWrong)

/- THE SECOND FORM. 'bulk': how many values and letters a reading holds, each counted each time it is reached (what is shared counts as often as it is met; a slice's spare places count too). A statement '..UptoSaid' is the law's where the arguments, and the package variables that the reading takes, are together of bulk at most 1048576: NARROWER than '..Said'. Prove '..Said' where nothing that the law and all that it calls make is longer than what came in: it says more and counts as full. Else prove '..UptoSaid'. A law counts once. -/
mutual
def uptoBulk {H : Type} : DataW H → Nat
  | .lit (.string bytes) => bytes.length + 1
  | .lit _ => 1
  | .nil => 1
  | .ptr d => uptoBulk d + 1
  | .slice elems spare => uptoBulkAll elems + uptoBulkAll spare + 1
  | .agg parts => uptoBulkAll parts + 1
  | .iface _ d => uptoBulk d + 1
  | .map entries => uptoBulkEntries entries + 1
  | .held _ => 1
def uptoBulkAll {H : Type} : List (DataW H) → Nat
  | [] => 0
  | d :: r => uptoBulk d + uptoBulkAll r
def uptoBulkEntries {H : Type} : List (Lit × DataW H) → Nat
  | [] => 0
  | x :: r => uptoBulkEntry x + uptoBulkEntries r
def uptoBulkEntry {H : Type} : Lit × DataW H → Nat
  | (.string bytes, d) => bytes.length + uptoBulk d + 1
  | (_, d) => uptoBulk d + 1
 end
def uptoSmall : (H : Type) → List (DataW H) → Bool := fun _ ds => decide (uptoBulkAll ds ≤ 1048576)
def OpenSpec.upto (s : _root_.Go.ChangeSpec) : _root_.Go.OpenSpec := { _root_.Go.OpenSpec.ofChange s with cond := some uptoSmall }

/-- 'laws.FnWouldStart', WHERE WHAT IT READS IS OF BULK AT MOST 1048576: true; the input reads as it did. -/
def fnWouldStartUptoRow : OpenClaim := { program := "ytmgkccnfhkcncaadoor", sum := "a3ddd96577317c87328a3b880395d2e98394410ab72224bb0e314605f2039539", func := "sheettokens/laws.FnWouldStart", spec := "fnWouldStart", named := ["unicode/utf8.first", "unicode/utf8.acceptRanges"], apart := false, laid := [("unicode/utf8.acceptRanges", laid_unicode_utf8_acceptRanges), ("unicode/utf8.first", laid_unicode_utf8_first)], narrowed := true }
def FnWouldStartUptoSaid : Prop := fnWouldStartUptoRow.holds Tryd.pinned (OpenSpec.upto fnWouldStartSpec)

/-- 'laws.FnIdentEnd', WHERE WHAT IT READS IS OF BULK AT MOST 1048576: true; the input reads as it did. -/
def fnIdentEndUptoRow : OpenClaim := { program := "ytmgkccnfhkcncaadoor", sum := "a3ddd96577317c87328a3b880395d2e98394410ab72224bb0e314605f2039539", func := "sheettokens/laws.FnIdentEnd", spec := "fnIdentEnd", named := ["unicode/utf8.first", "unicode/utf8.acceptRanges"], apart := false, laid := [("unicode/utf8.acceptRanges", laid_unicode_utf8_acceptRanges), ("unicode/utf8.first", laid_unicode_utf8_first)], narrowed := true }
def FnIdentEndUptoSaid : Prop := fnIdentEndUptoRow.holds Tryd.pinned (OpenSpec.upto fnIdentEndSpec)

/-- 'laws.FnDecoded', WHERE WHAT IT READS IS OF BULK AT MOST 1048576: true; the input reads as it did. -/
def fnDecodedUptoRow : OpenClaim := { program := "ytmgkccnfhkcncaadoor", sum := "a3ddd96577317c87328a3b880395d2e98394410ab72224bb0e314605f2039539", func := "sheettokens/laws.FnDecoded", spec := "fnDecoded", inPlace := ["internal/abi.NoEscape"], named := ["unicode/utf8.first", "unicode/utf8.acceptRanges"], apart := false, laid := [("unicode/utf8.acceptRanges", laid_unicode_utf8_acceptRanges), ("unicode/utf8.first", laid_unicode_utf8_first)], narrowed := true }
def FnDecodedUptoSaid : Prop := fnDecodedUptoRow.holds Tryd.pinned (OpenSpec.upto fnDecodedSpec)

/-- 'laws.FnDecodedInPieces', WHERE WHAT IT READS IS OF BULK AT MOST 1048576: true; the input reads as it did. -/
def fnDecodedInPiecesUptoRow : OpenClaim := { program := "ytmgkccnfhkcncaadoor", sum := "a3ddd96577317c87328a3b880395d2e98394410ab72224bb0e314605f2039539", func := "sheettokens/laws.FnDecodedInPieces", spec := "fnDecodedInPieces", inPlace := ["internal/abi.NoEscape"], named := ["unicode/utf8.first", "unicode/utf8.acceptRanges"], apart := false, laid := [("unicode/utf8.acceptRanges", laid_unicode_utf8_acceptRanges), ("unicode/utf8.first", laid_unicode_utf8_first)], narrowed := true }
def FnDecodedInPiecesUptoSaid : Prop := fnDecodedInPiecesUptoRow.holds Tryd.pinned (OpenSpec.upto fnDecodedInPiecesSpec)

/-- 'laws.FnEscapedIsDecoded', WHERE WHAT IT READS IS OF BULK AT MOST 1048576: true; the input reads as it did. -/
def fnEscapedIsDecodedUptoRow : OpenClaim := { program := "ytmgkccnfhkcncaadoor", sum := "a3ddd96577317c87328a3b880395d2e98394410ab72224bb0e314605f2039539", func := "sheettokens/laws.FnEscapedIsDecoded", spec := "fnEscapedIsDecoded", inPlace := ["internal/abi.NoEscape"], named := ["unicode/utf8.first", "unicode/utf8.acceptRanges"], apart := false, laid := [("unicode/utf8.acceptRanges", laid_unicode_utf8_acceptRanges), ("unicode/utf8.first", laid_unicode_utf8_first)], narrowed := true }
def FnEscapedIsDecodedUptoSaid : Prop := fnEscapedIsDecodedUptoRow.holds Tryd.pinned (OpenSpec.upto fnEscapedIsDecodedSpec)

/-- 'laws.FnIdentDecoded', WHERE WHAT IT READS IS OF BULK AT MOST 1048576: true; the input reads as it did. -/
def fnIdentDecodedUptoRow : OpenClaim := { program := "ytmgkccnfhkcncaadoor", sum := "a3ddd96577317c87328a3b880395d2e98394410ab72224bb0e314605f2039539", func := "sheettokens/laws.FnIdentDecoded", spec := "fnIdentDecoded", inPlace := ["internal/abi.NoEscape"], named := ["unicode/utf8.first", "unicode/utf8.acceptRanges"], apart := false, laid := [("unicode/utf8.acceptRanges", laid_unicode_utf8_acceptRanges), ("unicode/utf8.first", laid_unicode_utf8_first)], narrowed := true }
def FnIdentDecodedUptoSaid : Prop := fnIdentDecodedUptoRow.holds Tryd.pinned (OpenSpec.upto fnIdentDecodedSpec)

/-- 'laws.FnStringDecoded', WHERE WHAT IT READS IS OF BULK AT MOST 1048576: true; the input reads as it did. -/
def fnStringDecodedUptoRow : OpenClaim := { program := "ytmgkccnfhkcncaadoor", sum := "a3ddd96577317c87328a3b880395d2e98394410ab72224bb0e314605f2039539", func := "sheettokens/laws.FnStringDecoded", spec := "fnStringDecoded", inPlace := ["internal/abi.NoEscape"], named := ["unicode/utf8.first", "unicode/utf8.acceptRanges"], apart := false, laid := [("unicode/utf8.acceptRanges", laid_unicode_utf8_acceptRanges), ("unicode/utf8.first", laid_unicode_utf8_first)], narrowed := true }
def FnStringDecodedUptoSaid : Prop := fnStringDecodedUptoRow.holds Tryd.pinned (OpenSpec.upto fnStringDecodedSpec)

end Rows
end Go.Proofs.YtmgkccnfhkcncaaDoor
