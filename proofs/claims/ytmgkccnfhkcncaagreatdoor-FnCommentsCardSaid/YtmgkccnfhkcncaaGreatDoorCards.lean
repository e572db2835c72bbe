/-
  DERIVED. GIVEN WITH THE SEED: THE CARDS: each row of YtmgkccnfhkcncaaGreatDoorRows.lean that lists a variable, with what it lists TIED to the program's text (the seventh form; the later family's looks); each row that meets fmt, with fmt's text TOLD by the authors' own Lean function (tested against real Go, not proved from fmt's source: count such statements apart). THE CARD IS WHAT COUNTS. Prove the row's statement (the work); the ties are given (YtmgkccnfhkcncaaGreatDoorTie.lean); close each card by the builder's one call (the guide's Derived/Test/ToyasCard.lean, 'card_holds'). Laid BY PROGRAM, IN A SANDBOX (cutbox-door.mjs). By AI agents, Wed Nov 11 2026. No macro, syntax, notation, axiom, sorry.
-/
import Derived.Test.YtmgkccnfhkcncaaGreatDoorRows
import GoSem.ClaimSeven
namespace Go.Proofs.YtmgkccnfhkcncaaGreatDoor
namespace Rows

/-- THE TIED CARD OF 'laws.FnComments'. -/
def fnCommentsCard : Claim7 := { stood := { row := fnCommentsRow, standIns := [], harness := (true, "10dbfd00c0bcd2e2bc99cf4fa3a14ea5c382f54a4e45ba8dd1de130ddcfef1a0"), looks := false }, kinds := [], alts := [], laidByText := true, laidKinds := [.data, .pinned], laidTests := true, laidLooks := .later }
def FnCommentsCardSaid : Prop := Claim7.holds Tryz.pinned (.plain (OpenSpec.ofChange fnCommentsSpec)) fnCommentsCard

/-- THE TIED CARD OF 'laws.FnTokensFollow'. -/
def fnTokensFollowCard : Claim7 := { stood := { row := fnTokensFollowRow, standIns := [], harness := (true, "10dbfd00c0bcd2e2bc99cf4fa3a14ea5c382f54a4e45ba8dd1de130ddcfef1a0"), looks := false }, kinds := [], alts := [], laidByText := true, laidKinds := [.data, .pinned], laidTests := true, laidLooks := .later }
def FnTokensFollowCardSaid : Prop := Claim7.holds Tryz.pinned (.plain (OpenSpec.ofChange fnTokensFollowSpec)) fnTokensFollowCard

/-- THE TIED CARD OF 'laws.FnHashIsRead'. -/
def fnHashIsReadCard : Claim7 := { stood := { row := fnHashIsReadRow, standIns := [], harness := (true, "10dbfd00c0bcd2e2bc99cf4fa3a14ea5c382f54a4e45ba8dd1de130ddcfef1a0"), looks := false }, kinds := [], alts := [], laidByText := true, laidKinds := [.data, .pinned], laidTests := true, laidLooks := .later }
def FnHashIsReadCardSaid : Prop := Claim7.holds Tryz.pinned (.plain (OpenSpec.ofChange fnHashIsReadSpec)) fnHashIsReadCard

/-- THE TIED CARD OF 'laws.FnAddressIsRead'. -/
def fnAddressIsReadCard : Claim7 := { stood := { row := fnAddressIsReadRow, standIns := [], harness := (true, "10dbfd00c0bcd2e2bc99cf4fa3a14ea5c382f54a4e45ba8dd1de130ddcfef1a0"), looks := false }, kinds := [], alts := [], laidByText := true, laidKinds := [.data, .pinned], laidTests := true, laidLooks := .later }
def FnAddressIsReadCardSaid : Prop := Claim7.holds Tryz.pinned (.plain (OpenSpec.ofChange fnAddressIsReadSpec)) fnAddressIsReadCard

/-- THE TIED CARD OF 'laws.FnAtIsRead'. -/
def fnAtIsReadCard : Claim7 := { stood := { row := fnAtIsReadRow, standIns := [], harness := (true, "10dbfd00c0bcd2e2bc99cf4fa3a14ea5c382f54a4e45ba8dd1de130ddcfef1a0"), looks := false }, kinds := [], alts := [], laidByText := true, laidKinds := [.data, .pinned], laidTests := true, laidLooks := .later }
def FnAtIsReadCardSaid : Prop := Claim7.holds Tryz.pinned (.plain (OpenSpec.ofChange fnAtIsReadSpec)) fnAtIsReadCard

/-- THE TIED CARD OF 'laws.FnDimensionIsRead'. -/
def fnDimensionIsReadCard : Claim7 := { stood := { row := fnDimensionIsReadRow, standIns := [], harness := (true, "10dbfd00c0bcd2e2bc99cf4fa3a14ea5c382f54a4e45ba8dd1de130ddcfef1a0"), looks := false }, kinds := [], alts := [], laidByText := true, laidKinds := [.data, .pinned], laidTests := true, laidLooks := .later }
def FnDimensionIsReadCardSaid : Prop := Claim7.holds Tryz.pinned (.plain (OpenSpec.ofChange fnDimensionIsReadSpec)) fnDimensionIsReadCard

/-- THE TIED CARD OF 'laws.FnFunctionIsRead'. -/
def fnFunctionIsReadCard : Claim7 := { stood := { row := fnFunctionIsReadRow, standIns := [], harness := (true, "10dbfd00c0bcd2e2bc99cf4fa3a14ea5c382f54a4e45ba8dd1de130ddcfef1a0"), looks := false }, kinds := [], alts := [], laidByText := true, laidKinds := [.data, .pinned], laidTests := true, laidLooks := .later }
def FnFunctionIsReadCardSaid : Prop := Claim7.holds Tryz.pinned (.plain (OpenSpec.ofChange fnFunctionIsReadSpec)) fnFunctionIsReadCard

/-- THE TIED CARD OF 'laws.FnIdentIsRead'. -/
def fnIdentIsReadCard : Claim7 := { stood := { row := fnIdentIsReadRow, standIns := [], harness := (true, "10dbfd00c0bcd2e2bc99cf4fa3a14ea5c382f54a4e45ba8dd1de130ddcfef1a0"), looks := false }, kinds := [], alts := [], laidByText := true, laidKinds := [.data, .pinned], laidTests := true, laidLooks := .later }
def FnIdentIsReadCardSaid : Prop := Claim7.holds Tryz.pinned (.plain (OpenSpec.ofChange fnIdentIsReadSpec)) fnIdentIsReadCard

/-- THE TIED CARD OF 'laws.FnStringIsRead'. -/
def fnStringIsReadCard : Claim7 := { stood := { row := fnStringIsReadRow, standIns := [], harness := (true, "10dbfd00c0bcd2e2bc99cf4fa3a14ea5c382f54a4e45ba8dd1de130ddcfef1a0"), looks := false }, kinds := [], alts := [], laidByText := true, laidKinds := [.data, .pinned], laidTests := true, laidLooks := .later }
def FnStringIsReadCardSaid : Prop := Claim7.holds Tryz.pinned (.plain (OpenSpec.ofChange fnStringIsReadSpec)) fnStringIsReadCard

/-- THE SECOND FORM's CARD OF 'laws.FnComments'. -/
def fnCommentsUptoCard : Claim7 := { stood := { row := fnCommentsUptoRow, standIns := [], harness := (true, "10dbfd00c0bcd2e2bc99cf4fa3a14ea5c382f54a4e45ba8dd1de130ddcfef1a0"), looks := false }, kinds := [], alts := [], laidByText := true, laidKinds := [.data, .pinned], laidTests := true, laidLooks := .later }
def FnCommentsUptoCardSaid : Prop := Claim7.holds Tryz.pinned (.plain (OpenSpec.upto fnCommentsSpec)) fnCommentsUptoCard

/-- THE SECOND FORM's CARD OF 'laws.FnTokensFollow'. -/
def fnTokensFollowUptoCard : Claim7 := { stood := { row := fnTokensFollowUptoRow, standIns := [], harness := (true, "10dbfd00c0bcd2e2bc99cf4fa3a14ea5c382f54a4e45ba8dd1de130ddcfef1a0"), looks := false }, kinds := [], alts := [], laidByText := true, laidKinds := [.data, .pinned], laidTests := true, laidLooks := .later }
def FnTokensFollowUptoCardSaid : Prop := Claim7.holds Tryz.pinned (.plain (OpenSpec.upto fnTokensFollowSpec)) fnTokensFollowUptoCard

/-- THE SECOND FORM's CARD OF 'laws.FnHashIsRead'. -/
def fnHashIsReadUptoCard : Claim7 := { stood := { row := fnHashIsReadUptoRow, standIns := [], harness := (true, "10dbfd00c0bcd2e2bc99cf4fa3a14ea5c382f54a4e45ba8dd1de130ddcfef1a0"), looks := false }, kinds := [], alts := [], laidByText := true, laidKinds := [.data, .pinned], laidTests := true, laidLooks := .later }
def FnHashIsReadUptoCardSaid : Prop := Claim7.holds Tryz.pinned (.plain (OpenSpec.upto fnHashIsReadSpec)) fnHashIsReadUptoCard

/-- THE SECOND FORM's CARD OF 'laws.FnAddressIsRead'. -/
def fnAddressIsReadUptoCard : Claim7 := { stood := { row := fnAddressIsReadUptoRow, standIns := [], harness := (true, "10dbfd00c0bcd2e2bc99cf4fa3a14ea5c382f54a4e45ba8dd1de130ddcfef1a0"), looks := false }, kinds := [], alts := [], laidByText := true, laidKinds := [.data, .pinned], laidTests := true, laidLooks := .later }
def FnAddressIsReadUptoCardSaid : Prop := Claim7.holds Tryz.pinned (.plain (OpenSpec.upto fnAddressIsReadSpec)) fnAddressIsReadUptoCard

/-- THE SECOND FORM's CARD OF 'laws.FnAtIsRead'. -/
def fnAtIsReadUptoCard : Claim7 := { stood := { row := fnAtIsReadUptoRow, standIns := [], harness := (true, "10dbfd00c0bcd2e2bc99cf4fa3a14ea5c382f54a4e45ba8dd1de130ddcfef1a0"), looks := false }, kinds := [], alts := [], laidByText := true, laidKinds := [.data, .pinned], laidTests := true, laidLooks := .later }
def FnAtIsReadUptoCardSaid : Prop := Claim7.holds Tryz.pinned (.plain (OpenSpec.upto fnAtIsReadSpec)) fnAtIsReadUptoCard

/-- THE SECOND FORM's CARD OF 'laws.FnDimensionIsRead'. -/
def fnDimensionIsReadUptoCard : Claim7 := { stood := { row := fnDimensionIsReadUptoRow, standIns := [], harness := (true, "10dbfd00c0bcd2e2bc99cf4fa3a14ea5c382f54a4e45ba8dd1de130ddcfef1a0"), looks := false }, kinds := [], alts := [], laidByText := true, laidKinds := [.data, .pinned], laidTests := true, laidLooks := .later }
def FnDimensionIsReadUptoCardSaid : Prop := Claim7.holds Tryz.pinned (.plain (OpenSpec.upto fnDimensionIsReadSpec)) fnDimensionIsReadUptoCard

/-- THE SECOND FORM's CARD OF 'laws.FnFunctionIsRead'. -/
def fnFunctionIsReadUptoCard : Claim7 := { stood := { row := fnFunctionIsReadUptoRow, standIns := [], harness := (true, "10dbfd00c0bcd2e2bc99cf4fa3a14ea5c382f54a4e45ba8dd1de130ddcfef1a0"), looks := false }, kinds := [], alts := [], laidByText := true, laidKinds := [.data, .pinned], laidTests := true, laidLooks := .later }
def FnFunctionIsReadUptoCardSaid : Prop := Claim7.holds Tryz.pinned (.plain (OpenSpec.upto fnFunctionIsReadSpec)) fnFunctionIsReadUptoCard

/-- THE SECOND FORM's CARD OF 'laws.FnIdentIsRead'. -/
def fnIdentIsReadUptoCard : Claim7 := { stood := { row := fnIdentIsReadUptoRow, standIns := [], harness := (true, "10dbfd00c0bcd2e2bc99cf4fa3a14ea5c382f54a4e45ba8dd1de130ddcfef1a0"), looks := false }, kinds := [], alts := [], laidByText := true, laidKinds := [.data, .pinned], laidTests := true, laidLooks := .later }
def FnIdentIsReadUptoCardSaid : Prop := Claim7.holds Tryz.pinned (.plain (OpenSpec.upto fnIdentIsReadSpec)) fnIdentIsReadUptoCard

/-- THE SECOND FORM's CARD OF 'laws.FnStringIsRead'. -/
def fnStringIsReadUptoCard : Claim7 := { stood := { row := fnStringIsReadUptoRow, standIns := [], harness := (true, "10dbfd00c0bcd2e2bc99cf4fa3a14ea5c382f54a4e45ba8dd1de130ddcfef1a0"), looks := false }, kinds := [], alts := [], laidByText := true, laidKinds := [.data, .pinned], laidTests := true, laidLooks := .later }
def FnStringIsReadUptoCardSaid : Prop := Claim7.holds Tryz.pinned (.plain (OpenSpec.upto fnStringIsReadSpec)) fnStringIsReadUptoCard
end Rows
end Go.Proofs.YtmgkccnfhkcncaaGreatDoor
