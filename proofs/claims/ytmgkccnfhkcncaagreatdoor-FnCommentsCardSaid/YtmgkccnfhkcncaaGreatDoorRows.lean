/-
  NARROWER THAN 'FOR EVERY INPUT', by the rows' own cells (each row's printed sentence says how): FnComments: laid · FnTokensFollow: laid · FnHashIsRead: laid · FnAddressIsRead: laid · FnAtIsRead: laid · FnDimensionIsRead: laid · FnFunctionIsRead: laid · FnIdentIsRead: laid · FnStringIsRead: laid.
  DERIVED. THE GIVEN ROWS OF THIS SEAT. 9 by the template 'for every input the law returns true; each argument reads behind the call as it read before'; 0 by the template 'total and deterministic' (their statements: YtmgkccnfhkcncaaGreatDoorTotals.lean).
  GIVEN WITH THE SEED: the statements are not yours to turn. If you find one false, say at which input.
  Laid BY PROGRAM, IN A SANDBOX (cutbox-rows.mjs): the forced cells as the released guide's own fill.sh prints them over the translation 5c858a75741cc453… (all of the seat's roots in one cut). By AI agents, Wed Nov 11 2026. No macro, syntax, notation, axiom, sorry.
-/
import Derived.Test.YtmgkccnfhkcncaaGreatDoorChecked
import GoSem.PinnedTables
import GoSem.Claim
import GoSem.ClaimJoined
import GoSem.ClaimMapViews
import Derived.JoinedTies
import Derived.KernelRfl
namespace Go.Proofs.YtmgkccnfhkcncaaGreatDoor
/- THE CELL 'sum', in the pinned program and in every row, IS THE sha256 OF THE DUMP (.gsa) THAT YtmgkccnfhkcncaaGreatDoorProg.lean LOADS. Nothing in Lean hashes anything: it is a label: what it is worth is what the hold of that sum in a sandbox is worth. -/
noncomputable def Tryz.pinned : Pinned := { name := "ytmgkccnfhkcncaagreatdoor", sum := "5c858a75741cc4537943caf3095a0eb18b507d8764c2cb99b622f3bbc645d5e0", checked := Tryz.checked }
namespace Rows
def none {H : Type} : Left H := { results := [], args := [] }

/- WHAT THE LISTED PACKAGE-LEVEL VARIABLES READ AS WHEN THE CALL BEGINS. Each datum BY PROGRAM (the guide's laid-datum.mjs) off the statement by which the dump's own 'gosem.cut.vars' lays the variable. In a bare row this is a premise. The card (YtmgkccnfhkcncaaGreatDoorCards.lean) ties it to the program's text. -/
def laid_unicode_utf8_acceptRanges {H : Type} : DataW H := .agg [.agg [.lit (.int .u8 128), .lit (.int .u8 191)], .agg [.lit (.int .u8 160), .lit (.int .u8 191)], .agg [.lit (.int .u8 128), .lit (.int .u8 159)], .agg [.lit (.int .u8 144), .lit (.int .u8 191)], .agg [.lit (.int .u8 128), .lit (.int .u8 143)], .agg [.lit (.int .u8 0), .lit (.int .u8 0)], .agg [.lit (.int .u8 0), .lit (.int .u8 0)], .agg [.lit (.int .u8 0), .lit (.int .u8 0)], .agg [.lit (.int .u8 0), .lit (.int .u8 0)], .agg [.lit (.int .u8 0), .lit (.int .u8 0)], .agg [.lit (.int .u8 0), .lit (.int .u8 0)], .agg [.lit (.int .u8 0), .lit (.int .u8 0)], .agg [.lit (.int .u8 0), .lit (.int .u8 0)], .agg [.lit (.int .u8 0), .lit (.int .u8 0)], .agg [.lit (.int .u8 0), .lit (.int .u8 0)], .agg [.lit (.int .u8 0), .lit (.int .u8 0)]]
/-- One of Go's own tables, pinned by name: the form's constant. -/
def laid_unicode_utf8_first : DataW Unit := Go.Pinned.utf8First

/-- 'laws.FnComments': WHATEVER THE INPUT: true; the input reads as it did. -/
def fnCommentsSpec : ChangeSpec := { name := "fnComments", fn := fun _ => fun
  | [d] => { results := [.lit (.bool true)], args := [d] }
  | _ => none }
def fnCommentsRow : OpenClaim := { program := "ytmgkccnfhkcncaagreatdoor", sum := "5c858a75741cc4537943caf3095a0eb18b507d8764c2cb99b622f3bbc645d5e0", func := "sheettokens/laws.FnComments", spec := "fnComments", inPlace := ["(*internal/sync.Mutex).Lock", "internal/race.Disable", "sync/atomic.CompareAndSwapInt32", "internal/race.Enable", "internal/race.Acquire", "(*internal/sync.Mutex).lockSlow", "internal/sync.runtime_canSpin", "internal/sync.runtime_doSpin", "internal/sync.throw", "internal/sync.runtime_nanotime", "internal/sync.runtime_SemacquireMutex", "sync/atomic.AddInt32", "(*internal/sync.Mutex).Unlock", "internal/race.ReleaseMerge", "(*internal/sync.Mutex).unlockSlow", "internal/sync.fatal", "internal/sync.runtime_Semrelease", "internal/abi.NoEscape", "internal/bytealg.MakeNoZero"], unfollowed := true, recurses := true, named := ["unicode/utf8.first", "unicode/utf8.acceptRanges"], apart := false, laid := [("unicode/utf8.acceptRanges", laid_unicode_utf8_acceptRanges), ("unicode/utf8.first", laid_unicode_utf8_first)] }
def FnCommentsSaid : Prop := fnCommentsRow.holds Tryz.pinned (OpenSpec.ofChange fnCommentsSpec)

/-- ITS FALSE NEIGHBOUR: 'it returns false'. Refute it at one input. -/
def fnCommentsWrong : ChangeSpec := { name := "fnComments", fn := fun _ => fun
  | [d] => { results := [.lit (.bool false)], args := [d] }
  | _ => none }
def FnCommentsWrongFalsely : Prop := fnCommentsRow.holds Tryz.pinned (OpenSpec.ofChange fnCommentsWrong)

/-- 'laws.FnTokensFollow': WHATEVER THE INPUT: true; the input reads as it did. -/
def fnTokensFollowSpec : ChangeSpec := { name := "fnTokensFollow", fn := fun _ => fun
  | [d] => { results := [.lit (.bool true)], args := [d] }
  | _ => none }
def fnTokensFollowRow : OpenClaim := { program := "ytmgkccnfhkcncaagreatdoor", sum := "5c858a75741cc4537943caf3095a0eb18b507d8764c2cb99b622f3bbc645d5e0", func := "sheettokens/laws.FnTokensFollow", spec := "fnTokensFollow", inPlace := ["(*internal/sync.Mutex).Lock", "internal/race.Disable", "sync/atomic.CompareAndSwapInt32", "internal/race.Enable", "internal/race.Acquire", "(*internal/sync.Mutex).lockSlow", "internal/sync.runtime_canSpin", "internal/sync.runtime_doSpin", "internal/sync.throw", "internal/sync.runtime_nanotime", "internal/sync.runtime_SemacquireMutex", "sync/atomic.AddInt32", "(*internal/sync.Mutex).Unlock", "internal/race.ReleaseMerge", "(*internal/sync.Mutex).unlockSlow", "internal/sync.fatal", "internal/sync.runtime_Semrelease", "internal/abi.NoEscape", "internal/bytealg.MakeNoZero"], unfollowed := true, recurses := true, named := ["unicode/utf8.first", "unicode/utf8.acceptRanges"], apart := false, laid := [("unicode/utf8.acceptRanges", laid_unicode_utf8_acceptRanges), ("unicode/utf8.first", laid_unicode_utf8_first)] }
def FnTokensFollowSaid : Prop := fnTokensFollowRow.holds Tryz.pinned (OpenSpec.ofChange fnTokensFollowSpec)

/-- ITS FALSE NEIGHBOUR: 'it returns false'. Refute it at one input. -/
def fnTokensFollowWrong : ChangeSpec := { name := "fnTokensFollow", fn := fun _ => fun
  | [d] => { results := [.lit (.bool false)], args := [d] }
  | _ => none }
def FnTokensFollowWrongFalsely : Prop := fnTokensFollowRow.holds Tryz.pinned (OpenSpec.ofChange fnTokensFollowWrong)

/-- 'laws.FnHashIsRead': WHATEVER THE INPUT: true; the input reads as it did. -/
def fnHashIsReadSpec : ChangeSpec := { name := "fnHashIsRead", fn := fun _ => fun
  | [d] => { results := [.lit (.bool true)], args := [d] }
  | _ => none }
def fnHashIsReadRow : OpenClaim := { program := "ytmgkccnfhkcncaagreatdoor", sum := "5c858a75741cc4537943caf3095a0eb18b507d8764c2cb99b622f3bbc645d5e0", func := "sheettokens/laws.FnHashIsRead", spec := "fnHashIsRead", inPlace := ["(*internal/sync.Mutex).Lock", "internal/race.Disable", "sync/atomic.CompareAndSwapInt32", "internal/race.Enable", "internal/race.Acquire", "(*internal/sync.Mutex).lockSlow", "internal/sync.runtime_canSpin", "internal/sync.runtime_doSpin", "internal/sync.throw", "internal/sync.runtime_nanotime", "internal/sync.runtime_SemacquireMutex", "sync/atomic.AddInt32", "(*internal/sync.Mutex).Unlock", "internal/race.ReleaseMerge", "(*internal/sync.Mutex).unlockSlow", "internal/sync.fatal", "internal/sync.runtime_Semrelease", "internal/abi.NoEscape", "internal/bytealg.MakeNoZero"], unfollowed := true, recurses := true, named := ["unicode/utf8.first", "unicode/utf8.acceptRanges"], apart := false, laid := [("unicode/utf8.acceptRanges", laid_unicode_utf8_acceptRanges), ("unicode/utf8.first", laid_unicode_utf8_first)] }
def FnHashIsReadSaid : Prop := fnHashIsReadRow.holds Tryz.pinned (OpenSpec.ofChange fnHashIsReadSpec)

/-- ITS FALSE NEIGHBOUR: 'it returns false'. Refute it at one input. -/
def fnHashIsReadWrong : ChangeSpec := { name := "fnHashIsRead", fn := fun _ => fun
  | [d] => { results := [.lit (.bool false)], args := [d] }
  | _ => none }
def FnHashIsReadWrongFalsely : Prop := fnHashIsReadRow.holds Tryz.pinned (OpenSpec.ofChange fnHashIsReadWrong)

/-- 'laws.FnAddressIsRead': WHATEVER THE INPUT: true; the input reads as it did. -/
def fnAddressIsReadSpec : ChangeSpec := { name := "fnAddressIsRead", fn := fun _ => fun
  | [d] => { results := [.lit (.bool true)], args := [d] }
  | _ => none }
def fnAddressIsReadRow : OpenClaim := { program := "ytmgkccnfhkcncaagreatdoor", sum := "5c858a75741cc4537943caf3095a0eb18b507d8764c2cb99b622f3bbc645d5e0", func := "sheettokens/laws.FnAddressIsRead", spec := "fnAddressIsRead", inPlace := ["(*internal/sync.Mutex).Lock", "internal/race.Disable", "sync/atomic.CompareAndSwapInt32", "internal/race.Enable", "internal/race.Acquire", "(*internal/sync.Mutex).lockSlow", "internal/sync.runtime_canSpin", "internal/sync.runtime_doSpin", "internal/sync.throw", "internal/sync.runtime_nanotime", "internal/sync.runtime_SemacquireMutex", "sync/atomic.AddInt32", "(*internal/sync.Mutex).Unlock", "internal/race.ReleaseMerge", "(*internal/sync.Mutex).unlockSlow", "internal/sync.fatal", "internal/sync.runtime_Semrelease", "internal/abi.NoEscape", "internal/bytealg.MakeNoZero"], unfollowed := true, recurses := true, named := ["unicode/utf8.first", "unicode/utf8.acceptRanges"], apart := false, laid := [("unicode/utf8.acceptRanges", laid_unicode_utf8_acceptRanges), ("unicode/utf8.first", laid_unicode_utf8_first)] }
def FnAddressIsReadSaid : Prop := fnAddressIsReadRow.holds Tryz.pinned (OpenSpec.ofChange fnAddressIsReadSpec)

/-- ITS FALSE NEIGHBOUR: 'it returns false'. Refute it at one input. -/
def fnAddressIsReadWrong : ChangeSpec := { name := "fnAddressIsRead", fn := fun _ => fun
  | [d] => { results := [.lit (.bool false)], args := [d] }
  | _ => none }
def FnAddressIsReadWrongFalsely : Prop := fnAddressIsReadRow.holds Tryz.pinned (OpenSpec.ofChange fnAddressIsReadWrong)

/-- 'laws.FnAtIsRead': WHATEVER THE INPUT: true; the input reads as it did. -/
def fnAtIsReadSpec : ChangeSpec := { name := "fnAtIsRead", fn := fun _ => fun
  | [d] => { results := [.lit (.bool true)], args := [d] }
  | _ => none }
def fnAtIsReadRow : OpenClaim := { program := "ytmgkccnfhkcncaagreatdoor", sum := "5c858a75741cc4537943caf3095a0eb18b507d8764c2cb99b622f3bbc645d5e0", func := "sheettokens/laws.FnAtIsRead", spec := "fnAtIsRead", inPlace := ["(*internal/sync.Mutex).Lock", "internal/race.Disable", "sync/atomic.CompareAndSwapInt32", "internal/race.Enable", "internal/race.Acquire", "(*internal/sync.Mutex).lockSlow", "internal/sync.runtime_canSpin", "internal/sync.runtime_doSpin", "internal/sync.throw", "internal/sync.runtime_nanotime", "internal/sync.runtime_SemacquireMutex", "sync/atomic.AddInt32", "(*internal/sync.Mutex).Unlock", "internal/race.ReleaseMerge", "(*internal/sync.Mutex).unlockSlow", "internal/sync.fatal", "internal/sync.runtime_Semrelease", "internal/abi.NoEscape", "internal/bytealg.MakeNoZero"], unfollowed := true, recurses := true, named := ["unicode/utf8.first", "unicode/utf8.acceptRanges"], apart := false, laid := [("unicode/utf8.acceptRanges", laid_unicode_utf8_acceptRanges), ("unicode/utf8.first", laid_unicode_utf8_first)] }
def FnAtIsReadSaid : Prop := fnAtIsReadRow.holds Tryz.pinned (OpenSpec.ofChange fnAtIsReadSpec)

/-- ITS FALSE NEIGHBOUR: 'it returns false'. Refute it at one input. -/
def fnAtIsReadWrong : ChangeSpec := { name := "fnAtIsRead", fn := fun _ => fun
  | [d] => { results := [.lit (.bool false)], args := [d] }
  | _ => none }
def FnAtIsReadWrongFalsely : Prop := fnAtIsReadRow.holds Tryz.pinned (OpenSpec.ofChange fnAtIsReadWrong)

/-- 'laws.FnDimensionIsRead': WHATEVER THE INPUT: true; the input reads as it did. -/
def fnDimensionIsReadSpec : ChangeSpec := { name := "fnDimensionIsRead", fn := fun _ => fun
  | [d1, d2] => { results := [.lit (.bool true)], args := [d1, d2] }
  | _ => none }
def fnDimensionIsReadRow : OpenClaim := { program := "ytmgkccnfhkcncaagreatdoor", sum := "5c858a75741cc4537943caf3095a0eb18b507d8764c2cb99b622f3bbc645d5e0", func := "sheettokens/laws.FnDimensionIsRead", spec := "fnDimensionIsRead", inPlace := ["(*internal/sync.Mutex).Lock", "internal/race.Disable", "sync/atomic.CompareAndSwapInt32", "internal/race.Enable", "internal/race.Acquire", "(*internal/sync.Mutex).lockSlow", "internal/sync.runtime_canSpin", "internal/sync.runtime_doSpin", "internal/sync.throw", "internal/sync.runtime_nanotime", "internal/sync.runtime_SemacquireMutex", "sync/atomic.AddInt32", "(*internal/sync.Mutex).Unlock", "internal/race.ReleaseMerge", "(*internal/sync.Mutex).unlockSlow", "internal/sync.fatal", "internal/sync.runtime_Semrelease", "internal/abi.NoEscape", "internal/bytealg.MakeNoZero"], unfollowed := true, recurses := true, named := ["unicode/utf8.first", "unicode/utf8.acceptRanges"], apart := false, laid := [("unicode/utf8.acceptRanges", laid_unicode_utf8_acceptRanges), ("unicode/utf8.first", laid_unicode_utf8_first)] }
def FnDimensionIsReadSaid : Prop := fnDimensionIsReadRow.holds Tryz.pinned (OpenSpec.ofChange fnDimensionIsReadSpec)

/-- ITS FALSE NEIGHBOUR: 'it returns false'. Refute it at one input. -/
def fnDimensionIsReadWrong : ChangeSpec := { name := "fnDimensionIsRead", fn := fun _ => fun
  | [d1, d2] => { results := [.lit (.bool false)], args := [d1, d2] }
  | _ => none }
def FnDimensionIsReadWrongFalsely : Prop := fnDimensionIsReadRow.holds Tryz.pinned (OpenSpec.ofChange fnDimensionIsReadWrong)

/-- 'laws.FnFunctionIsRead': WHATEVER THE INPUT: true; the input reads as it did. -/
def fnFunctionIsReadSpec : ChangeSpec := { name := "fnFunctionIsRead", fn := fun _ => fun
  | [d] => { results := [.lit (.bool true)], args := [d] }
  | _ => none }
def fnFunctionIsReadRow : OpenClaim := { program := "ytmgkccnfhkcncaagreatdoor", sum := "5c858a75741cc4537943caf3095a0eb18b507d8764c2cb99b622f3bbc645d5e0", func := "sheettokens/laws.FnFunctionIsRead", spec := "fnFunctionIsRead", inPlace := ["(*internal/sync.Mutex).Lock", "internal/race.Disable", "sync/atomic.CompareAndSwapInt32", "internal/race.Enable", "internal/race.Acquire", "(*internal/sync.Mutex).lockSlow", "internal/sync.runtime_canSpin", "internal/sync.runtime_doSpin", "internal/sync.throw", "internal/sync.runtime_nanotime", "internal/sync.runtime_SemacquireMutex", "sync/atomic.AddInt32", "(*internal/sync.Mutex).Unlock", "internal/race.ReleaseMerge", "(*internal/sync.Mutex).unlockSlow", "internal/sync.fatal", "internal/sync.runtime_Semrelease", "internal/abi.NoEscape", "internal/bytealg.MakeNoZero"], unfollowed := true, recurses := true, named := ["unicode/utf8.first", "unicode/utf8.acceptRanges"], apart := false, laid := [("unicode/utf8.acceptRanges", laid_unicode_utf8_acceptRanges), ("unicode/utf8.first", laid_unicode_utf8_first)] }
def FnFunctionIsReadSaid : Prop := fnFunctionIsReadRow.holds Tryz.pinned (OpenSpec.ofChange fnFunctionIsReadSpec)

/-- ITS FALSE NEIGHBOUR: 'it returns false'. Refute it at one input. -/
def fnFunctionIsReadWrong : ChangeSpec := { name := "fnFunctionIsRead", fn := fun _ => fun
  | [d] => { results := [.lit (.bool false)], args := [d] }
  | _ => none }
def FnFunctionIsReadWrongFalsely : Prop := fnFunctionIsReadRow.holds Tryz.pinned (OpenSpec.ofChange fnFunctionIsReadWrong)

/-- 'laws.FnIdentIsRead': WHATEVER THE INPUT: true; the input reads as it did. -/
def fnIdentIsReadSpec : ChangeSpec := { name := "fnIdentIsRead", fn := fun _ => fun
  | [d] => { results := [.lit (.bool true)], args := [d] }
  | _ => none }
def fnIdentIsReadRow : OpenClaim := { program := "ytmgkccnfhkcncaagreatdoor", sum := "5c858a75741cc4537943caf3095a0eb18b507d8764c2cb99b622f3bbc645d5e0", func := "sheettokens/laws.FnIdentIsRead", spec := "fnIdentIsRead", inPlace := ["(*internal/sync.Mutex).Lock", "internal/race.Disable", "sync/atomic.CompareAndSwapInt32", "internal/race.Enable", "internal/race.Acquire", "(*internal/sync.Mutex).lockSlow", "internal/sync.runtime_canSpin", "internal/sync.runtime_doSpin", "internal/sync.throw", "internal/sync.runtime_nanotime", "internal/sync.runtime_SemacquireMutex", "sync/atomic.AddInt32", "(*internal/sync.Mutex).Unlock", "internal/race.ReleaseMerge", "(*internal/sync.Mutex).unlockSlow", "internal/sync.fatal", "internal/sync.runtime_Semrelease", "internal/abi.NoEscape", "internal/bytealg.MakeNoZero"], unfollowed := true, recurses := true, named := ["unicode/utf8.first", "unicode/utf8.acceptRanges"], apart := false, laid := [("unicode/utf8.acceptRanges", laid_unicode_utf8_acceptRanges), ("unicode/utf8.first", laid_unicode_utf8_first)] }
def FnIdentIsReadSaid : Prop := fnIdentIsReadRow.holds Tryz.pinned (OpenSpec.ofChange fnIdentIsReadSpec)

/-- ITS FALSE NEIGHBOUR: 'it returns false'. Refute it at one input. -/
def fnIdentIsReadWrong : ChangeSpec := { name := "fnIdentIsRead", fn := fun _ => fun
  | [d] => { results := [.lit (.bool false)], args := [d] }
  | _ => none }
def FnIdentIsReadWrongFalsely : Prop := fnIdentIsReadRow.holds Tryz.pinned (OpenSpec.ofChange fnIdentIsReadWrong)

/-- 'laws.FnStringIsRead': WHATEVER THE INPUT: true; the input reads as it did. -/
def fnStringIsReadSpec : ChangeSpec := { name := "fnStringIsRead", fn := fun _ => fun
  | [d] => { results := [.lit (.bool true)], args := [d] }
  | _ => none }
def fnStringIsReadRow : OpenClaim := { program := "ytmgkccnfhkcncaagreatdoor", sum := "5c858a75741cc4537943caf3095a0eb18b507d8764c2cb99b622f3bbc645d5e0", func := "sheettokens/laws.FnStringIsRead", spec := "fnStringIsRead", inPlace := ["(*internal/sync.Mutex).Lock", "internal/race.Disable", "sync/atomic.CompareAndSwapInt32", "internal/race.Enable", "internal/race.Acquire", "(*internal/sync.Mutex).lockSlow", "internal/sync.runtime_canSpin", "internal/sync.runtime_doSpin", "internal/sync.throw", "internal/sync.runtime_nanotime", "internal/sync.runtime_SemacquireMutex", "sync/atomic.AddInt32", "(*internal/sync.Mutex).Unlock", "internal/race.ReleaseMerge", "(*internal/sync.Mutex).unlockSlow", "internal/sync.fatal", "internal/sync.runtime_Semrelease", "internal/abi.NoEscape", "internal/bytealg.MakeNoZero"], unfollowed := true, recurses := true, named := ["unicode/utf8.first", "unicode/utf8.acceptRanges"], apart := false, laid := [("unicode/utf8.acceptRanges", laid_unicode_utf8_acceptRanges), ("unicode/utf8.first", laid_unicode_utf8_first)] }
def FnStringIsReadSaid : Prop := fnStringIsReadRow.holds Tryz.pinned (OpenSpec.ofChange fnStringIsReadSpec)

/-- ITS FALSE NEIGHBOUR: 'it returns false'. Refute it at one input. -/
def fnStringIsReadWrong : ChangeSpec := { name := "fnStringIsRead", fn := fun _ => fun
  | [d] => { results := [.lit (.bool false)], args := [d] }
  | _ => none }
def FnStringIsReadWrongFalsely : Prop := fnStringIsReadRow.holds Tryz.pinned (OpenSpec.ofChange fnStringIsReadWrong)

/- THE SECOND FORM. 'bulk': how many values and letters a reading holds, each counted each time it is reached (what is shared counts as often as it is met; a slice's spare places count too). A statement '..UptoSaid' is the law's where the arguments, and the package variables that the reading takes, are together of bulk at most 1048576: NARROWER than '..Said'. Prove '..Said' where nothing that the law and all that it calls make is longer than what came in: it says more and counts as full. Else prove '..UptoSaid'. A law counts once. -/
mutual
def uptoBulk {H : Type} : DataW H → Nat
  | .lit (.string bytes) => bytes.length + 1
  | .lit _ => 1
  | .nil => 1
  | .ptr d => uptoBulk d + 1
  | .slice elems spare => uptoBulkAll elems + uptoBulkAll spare + 1
  | .agg parts => uptoBulkAll parts + 1
  | .iface _ d => uptoBulk d + 1
  | .map entries => uptoBulkEntries entries + 1
  | .held _ => 1
def uptoBulkAll {H : Type} : List (DataW H) → Nat
  | [] => 0
  | d :: r => uptoBulk d + uptoBulkAll r
def uptoBulkEntries {H : Type} : List (Lit × DataW H) → Nat
  | [] => 0
  | x :: r => uptoBulkEntry x + uptoBulkEntries r
def uptoBulkEntry {H : Type} : Lit × DataW H → Nat
  | (.string bytes, d) => bytes.length + uptoBulk d + 1
  | (_, d) => uptoBulk d + 1
 end
def uptoSmall : (H : Type) → List (DataW H) → Bool := fun _ ds => decide (uptoBulkAll ds ≤ 1048576)
def OpenSpec.upto (s : _root_.Go.ChangeSpec) : _root_.Go.OpenSpec := { _root_.Go.OpenSpec.ofChange s with cond := some uptoSmall }

/-- 'laws.FnComments', WHERE WHAT IT READS IS OF BULK AT MOST 1048576: true; the input reads as it did. -/
def fnCommentsUptoRow : OpenClaim := { program := "ytmgkccnfhkcncaagreatdoor", sum := "5c858a75741cc4537943caf3095a0eb18b507d8764c2cb99b622f3bbc645d5e0", func := "sheettokens/laws.FnComments", spec := "fnComments", inPlace := ["(*internal/sync.Mutex).Lock", "internal/race.Disable", "sync/atomic.CompareAndSwapInt32", "internal/race.Enable", "internal/race.Acquire", "(*internal/sync.Mutex).lockSlow", "internal/sync.runtime_canSpin", "internal/sync.runtime_doSpin", "internal/sync.throw", "internal/sync.runtime_nanotime", "internal/sync.runtime_SemacquireMutex", "sync/atomic.AddInt32", "(*internal/sync.Mutex).Unlock", "internal/race.ReleaseMerge", "(*internal/sync.Mutex).unlockSlow", "internal/sync.fatal", "internal/sync.runtime_Semrelease", "internal/abi.NoEscape", "internal/bytealg.MakeNoZero"], unfollowed := true, recurses := true, named := ["unicode/utf8.first", "unicode/utf8.acceptRanges"], apart := false, laid := [("unicode/utf8.acceptRanges", laid_unicode_utf8_acceptRanges), ("unicode/utf8.first", laid_unicode_utf8_first)], narrowed := true }
def FnCommentsUptoSaid : Prop := fnCommentsUptoRow.holds Tryz.pinned (OpenSpec.upto fnCommentsSpec)

/-- 'laws.FnTokensFollow', WHERE WHAT IT READS IS OF BULK AT MOST 1048576: true; the input reads as it did. -/
def fnTokensFollowUptoRow : OpenClaim := { program := "ytmgkccnfhkcncaagreatdoor", sum := "5c858a75741cc4537943caf3095a0eb18b507d8764c2cb99b622f3bbc645d5e0", func := "sheettokens/laws.FnTokensFollow", spec := "fnTokensFollow", inPlace := ["(*internal/sync.Mutex).Lock", "internal/race.Disable", "sync/atomic.CompareAndSwapInt32", "internal/race.Enable", "internal/race.Acquire", "(*internal/sync.Mutex).lockSlow", "internal/sync.runtime_canSpin", "internal/sync.runtime_doSpin", "internal/sync.throw", "internal/sync.runtime_nanotime", "internal/sync.runtime_SemacquireMutex", "sync/atomic.AddInt32", "(*internal/sync.Mutex).Unlock", "internal/race.ReleaseMerge", "(*internal/sync.Mutex).unlockSlow", "internal/sync.fatal", "internal/sync.runtime_Semrelease", "internal/abi.NoEscape", "internal/bytealg.MakeNoZero"], unfollowed := true, recurses := true, named := ["unicode/utf8.first", "unicode/utf8.acceptRanges"], apart := false, laid := [("unicode/utf8.acceptRanges", laid_unicode_utf8_acceptRanges), ("unicode/utf8.first", laid_unicode_utf8_first)], narrowed := true }
def FnTokensFollowUptoSaid : Prop := fnTokensFollowUptoRow.holds Tryz.pinned (OpenSpec.upto fnTokensFollowSpec)

/-- 'laws.FnHashIsRead', WHERE WHAT IT READS IS OF BULK AT MOST 1048576: true; the input reads as it did. -/
def fnHashIsReadUptoRow : OpenClaim := { program := "ytmgkccnfhkcncaagreatdoor", sum := "5c858a75741cc4537943caf3095a0eb18b507d8764c2cb99b622f3bbc645d5e0", func := "sheettokens/laws.FnHashIsRead", spec := "fnHashIsRead", inPlace := ["(*internal/sync.Mutex).Lock", "internal/race.Disable", "sync/atomic.CompareAndSwapInt32", "internal/race.Enable", "internal/race.Acquire", "(*internal/sync.Mutex).lockSlow", "internal/sync.runtime_canSpin", "internal/sync.runtime_doSpin", "internal/sync.throw", "internal/sync.runtime_nanotime", "internal/sync.runtime_SemacquireMutex", "sync/atomic.AddInt32", "(*internal/sync.Mutex).Unlock", "internal/race.ReleaseMerge", "(*internal/sync.Mutex).unlockSlow", "internal/sync.fatal", "internal/sync.runtime_Semrelease", "internal/abi.NoEscape", "internal/bytealg.MakeNoZero"], unfollowed := true, recurses := true, named := ["unicode/utf8.first", "unicode/utf8.acceptRanges"], apart := false, laid := [("unicode/utf8.acceptRanges", laid_unicode_utf8_acceptRanges), ("unicode/utf8.first", laid_unicode_utf8_first)], narrowed := true }
def FnHashIsReadUptoSaid : Prop := fnHashIsReadUptoRow.holds Tryz.pinned (OpenSpec.upto fnHashIsReadSpec)

/-- 'laws.FnAddressIsRead', WHERE WHAT IT READS IS OF BULK AT MOST 1048576: true; the input reads as it did. -/
def fnAddressIsReadUptoRow : OpenClaim := { program := "ytmgkccnfhkcncaagreatdoor", sum := "5c858a75741cc4537943caf3095a0eb18b507d8764c2cb99b622f3bbc645d5e0", func := "sheettokens/laws.FnAddressIsRead", spec := "fnAddressIsRead", inPlace := ["(*internal/sync.Mutex).Lock", "internal/race.Disable", "sync/atomic.CompareAndSwapInt32", "internal/race.Enable", "internal/race.Acquire", "(*internal/sync.Mutex).lockSlow", "internal/sync.runtime_canSpin", "internal/sync.runtime_doSpin", "internal/sync.throw", "internal/sync.runtime_nanotime", "internal/sync.runtime_SemacquireMutex", "sync/atomic.AddInt32", "(*internal/sync.Mutex).Unlock", "internal/race.ReleaseMerge", "(*internal/sync.Mutex).unlockSlow", "internal/sync.fatal", "internal/sync.runtime_Semrelease", "internal/abi.NoEscape", "internal/bytealg.MakeNoZero"], unfollowed := true, recurses := true, named := ["unicode/utf8.first", "unicode/utf8.acceptRanges"], apart := false, laid := [("unicode/utf8.acceptRanges", laid_unicode_utf8_acceptRanges), ("unicode/utf8.first", laid_unicode_utf8_first)], narrowed := true }
def FnAddressIsReadUptoSaid : Prop := fnAddressIsReadUptoRow.holds Tryz.pinned (OpenSpec.upto fnAddressIsReadSpec)

/-- 'laws.FnAtIsRead', WHERE WHAT IT READS IS OF BULK AT MOST 1048576: true; the input reads as it did. -/
def fnAtIsReadUptoRow : OpenClaim := { program := "ytmgkccnfhkcncaagreatdoor", sum := "5c858a75741cc4537943caf3095a0eb18b507d8764c2cb99b622f3bbc645d5e0", func := "sheettokens/laws.FnAtIsRead", spec := "fnAtIsRead", inPlace := ["(*internal/sync.Mutex).Lock", "internal/race.Disable", "sync/atomic.CompareAndSwapInt32", "internal/race.Enable", "internal/race.Acquire", "(*internal/sync.Mutex).lockSlow", "internal/sync.runtime_canSpin", "internal/sync.runtime_doSpin", "internal/sync.throw", "internal/sync.runtime_nanotime", "internal/sync.runtime_SemacquireMutex", "sync/atomic.AddInt32", "(*internal/sync.Mutex).Unlock", "internal/race.ReleaseMerge", "(*internal/sync.Mutex).unlockSlow", "internal/sync.fatal", "internal/sync.runtime_Semrelease", "internal/abi.NoEscape", "internal/bytealg.MakeNoZero"], unfollowed := true, recurses := true, named := ["unicode/utf8.first", "unicode/utf8.acceptRanges"], apart := false, laid := [("unicode/utf8.acceptRanges", laid_unicode_utf8_acceptRanges), ("unicode/utf8.first", laid_unicode_utf8_first)], narrowed := true }
def FnAtIsReadUptoSaid : Prop := fnAtIsReadUptoRow.holds Tryz.pinned (OpenSpec.upto fnAtIsReadSpec)

/-- 'laws.FnDimensionIsRead', WHERE WHAT IT READS IS OF BULK AT MOST 1048576: true; the input reads as it did. -/
def fnDimensionIsReadUptoRow : OpenClaim := { program := "ytmgkccnfhkcncaagreatdoor", sum := "5c858a75741cc4537943caf3095a0eb18b507d8764c2cb99b622f3bbc645d5e0", func := "sheettokens/laws.FnDimensionIsRead", spec := "fnDimensionIsRead", inPlace := ["(*internal/sync.Mutex).Lock", "internal/race.Disable", "sync/atomic.CompareAndSwapInt32", "internal/race.Enable", "internal/race.Acquire", "(*internal/sync.Mutex).lockSlow", "internal/sync.runtime_canSpin", "internal/sync.runtime_doSpin", "internal/sync.throw", "internal/sync.runtime_nanotime", "internal/sync.runtime_SemacquireMutex", "sync/atomic.AddInt32", "(*internal/sync.Mutex).Unlock", "internal/race.ReleaseMerge", "(*internal/sync.Mutex).unlockSlow", "internal/sync.fatal", "internal/sync.runtime_Semrelease", "internal/abi.NoEscape", "internal/bytealg.MakeNoZero"], unfollowed := true, recurses := true, named := ["unicode/utf8.first", "unicode/utf8.acceptRanges"], apart := false, laid := [("unicode/utf8.acceptRanges", laid_unicode_utf8_acceptRanges), ("unicode/utf8.first", laid_unicode_utf8_first)], narrowed := true }
def FnDimensionIsReadUptoSaid : Prop := fnDimensionIsReadUptoRow.holds Tryz.pinned (OpenSpec.upto fnDimensionIsReadSpec)

/-- 'laws.FnFunctionIsRead', WHERE WHAT IT READS IS OF BULK AT MOST 1048576: true; the input reads as it did. -/
def fnFunctionIsReadUptoRow : OpenClaim := { program := "ytmgkccnfhkcncaagreatdoor", sum := "5c858a75741cc4537943caf3095a0eb18b507d8764c2cb99b622f3bbc645d5e0", func := "sheettokens/laws.FnFunctionIsRead", spec := "fnFunctionIsRead", inPlace := ["(*internal/sync.Mutex).Lock", "internal/race.Disable", "sync/atomic.CompareAndSwapInt32", "internal/race.Enable", "internal/race.Acquire", "(*internal/sync.Mutex).lockSlow", "internal/sync.runtime_canSpin", "internal/sync.runtime_doSpin", "internal/sync.throw", "internal/sync.runtime_nanotime", "internal/sync.runtime_SemacquireMutex", "sync/atomic.AddInt32", "(*internal/sync.Mutex).Unlock", "internal/race.ReleaseMerge", "(*internal/sync.Mutex).unlockSlow", "internal/sync.fatal", "internal/sync.runtime_Semrelease", "internal/abi.NoEscape", "internal/bytealg.MakeNoZero"], unfollowed := true, recurses := true, named := ["unicode/utf8.first", "unicode/utf8.acceptRanges"], apart := false, laid := [("unicode/utf8.acceptRanges", laid_unicode_utf8_acceptRanges), ("unicode/utf8.first", laid_unicode_utf8_first)], narrowed := true }
def FnFunctionIsReadUptoSaid : Prop := fnFunctionIsReadUptoRow.holds Tryz.pinned (OpenSpec.upto fnFunctionIsReadSpec)

/-- 'laws.FnIdentIsRead', WHERE WHAT IT READS IS OF BULK AT MOST 1048576: true; the input reads as it did. -/
def fnIdentIsReadUptoRow : OpenClaim := { program := "ytmgkccnfhkcncaagreatdoor", sum := "5c858a75741cc4537943caf3095a0eb18b507d8764c2cb99b622f3bbc645d5e0", func := "sheettokens/laws.FnIdentIsRead", spec := "fnIdentIsRead", inPlace := ["(*internal/sync.Mutex).Lock", "internal/race.Disable", "sync/atomic.CompareAndSwapInt32", "internal/race.Enable", "internal/race.Acquire", "(*internal/sync.Mutex).lockSlow", "internal/sync.runtime_canSpin", "internal/sync.runtime_doSpin", "internal/sync.throw", "internal/sync.runtime_nanotime", "internal/sync.runtime_SemacquireMutex", "sync/atomic.AddInt32", "(*internal/sync.Mutex).Unlock", "internal/race.ReleaseMerge", "(*internal/sync.Mutex).unlockSlow", "internal/sync.fatal", "internal/sync.runtime_Semrelease", "internal/abi.NoEscape", "internal/bytealg.MakeNoZero"], unfollowed := true, recurses := true, named := ["unicode/utf8.first", "unicode/utf8.acceptRanges"], apart := false, laid := [("unicode/utf8.acceptRanges", laid_unicode_utf8_acceptRanges), ("unicode/utf8.first", laid_unicode_utf8_first)], narrowed := true }
def FnIdentIsReadUptoSaid : Prop := fnIdentIsReadUptoRow.holds Tryz.pinned (OpenSpec.upto fnIdentIsReadSpec)

/-- 'laws.FnStringIsRead', WHERE WHAT IT READS IS OF BULK AT MOST 1048576: true; the input reads as it did. -/
def fnStringIsReadUptoRow : OpenClaim := { program := "ytmgkccnfhkcncaagreatdoor", sum := "5c858a75741cc4537943caf3095a0eb18b507d8764c2cb99b622f3bbc645d5e0", func := "sheettokens/laws.FnStringIsRead", spec := "fnStringIsRead", inPlace := ["(*internal/sync.Mutex).Lock", "internal/race.Disable", "sync/atomic.CompareAndSwapInt32", "internal/race.Enable", "internal/race.Acquire", "(*internal/sync.Mutex).lockSlow", "internal/sync.runtime_canSpin", "internal/sync.runtime_doSpin", "internal/sync.throw", "internal/sync.runtime_nanotime", "internal/sync.runtime_SemacquireMutex", "sync/atomic.AddInt32", "(*internal/sync.Mutex).Unlock", "internal/race.ReleaseMerge", "(*internal/sync.Mutex).unlockSlow", "internal/sync.fatal", "internal/sync.runtime_Semrelease", "internal/abi.NoEscape", "internal/bytealg.MakeNoZero"], unfollowed := true, recurses := true, named := ["unicode/utf8.first", "unicode/utf8.acceptRanges"], apart := false, laid := [("unicode/utf8.acceptRanges", laid_unicode_utf8_acceptRanges), ("unicode/utf8.first", laid_unicode_utf8_first)], narrowed := true }
def FnStringIsReadUptoSaid : Prop := fnStringIsReadUptoRow.holds Tryz.pinned (OpenSpec.upto fnStringIsReadSpec)

end Rows
end Go.Proofs.YtmgkccnfhkcncaaGreatDoor
