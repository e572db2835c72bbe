/-
  DERIVED. GIVEN WITH THE SEED: THE CARDS: each row of YtmgkccnfhkcncaaDoorRows.lean that lists a variable, with what it lists TIED to the program's text (the seventh form; the later family's looks); each row that meets fmt, with fmt's text TOLD by the authors' own Lean function (tested against real Go, not proved from fmt's source: count such statements apart). THE CARD IS WHAT COUNTS. Prove the row's statement (the work); the ties are given (YtmgkccnfhkcncaaDoorTie.lean); close each card by the builder's one call (the guide's Derived/Test/ToyasCard.lean, 'card_holds'). Laid BY PROGRAM, IN A SANDBOX (cutbox-door.mjs). By AI agents, Wed Nov 11 2026. No macro, syntax, notation, axiom, sorry.
-/
import Derived.Test.YtmgkccnfhkcncaaDoorRows
import GoSem.ClaimSeven
namespace Go.Proofs.YtmgkccnfhkcncaaDoor
namespace Rows

/-- THE TIED CARD OF 'laws.FnWouldStart'. -/
def fnWouldStartCard : Claim7 := { stood := { row := fnWouldStartRow, standIns := [], harness := (true, "816c5d9e48deddf07c3564b4ccc53784f72cea14082f8deeb4c377bfbbb7e5cd"), looks := false }, kinds := [], alts := [], laidByText := true, laidKinds := [.data, .pinned], laidTests := true, laidLooks := .later }
def FnWouldStartCardSaid : Prop := Claim7.holds Tryd.pinned (.plain (OpenSpec.ofChange fnWouldStartSpec)) fnWouldStartCard

/-- THE TIED CARD OF 'laws.FnIdentEnd'. -/
def fnIdentEndCard : Claim7 := { stood := { row := fnIdentEndRow, standIns := [], harness := (true, "816c5d9e48deddf07c3564b4ccc53784f72cea14082f8deeb4c377bfbbb7e5cd"), looks := false }, kinds := [], alts := [], laidByText := true, laidKinds := [.data, .pinned], laidTests := true, laidLooks := .later }
def FnIdentEndCardSaid : Prop := Claim7.holds Tryd.pinned (.plain (OpenSpec.ofChange fnIdentEndSpec)) fnIdentEndCard

/-- THE TIED CARD OF 'laws.FnDecoded'. -/
def fnDecodedCard : Claim7 := { stood := { row := fnDecodedRow, standIns := [], harness := (true, "816c5d9e48deddf07c3564b4ccc53784f72cea14082f8deeb4c377bfbbb7e5cd"), looks := false }, kinds := [], alts := [], laidByText := true, laidKinds := [.data, .pinned], laidTests := true, laidLooks := .later }
def FnDecodedCardSaid : Prop := Claim7.holds Tryd.pinned (.plain (OpenSpec.ofChange fnDecodedSpec)) fnDecodedCard

/-- THE TIED CARD OF 'laws.FnDecodedInPieces'. -/
def fnDecodedInPiecesCard : Claim7 := { stood := { row := fnDecodedInPiecesRow, standIns := [], harness := (true, "816c5d9e48deddf07c3564b4ccc53784f72cea14082f8deeb4c377bfbbb7e5cd"), looks := false }, kinds := [], alts := [], laidByText := true, laidKinds := [.data, .pinned], laidTests := true, laidLooks := .later }
def FnDecodedInPiecesCardSaid : Prop := Claim7.holds Tryd.pinned (.plain (OpenSpec.ofChange fnDecodedInPiecesSpec)) fnDecodedInPiecesCard

/-- THE TIED CARD OF 'laws.FnEscapedIsDecoded'. -/
def fnEscapedIsDecodedCard : Claim7 := { stood := { row := fnEscapedIsDecodedRow, standIns := [], harness := (true, "816c5d9e48deddf07c3564b4ccc53784f72cea14082f8deeb4c377bfbbb7e5cd"), looks := false }, kinds := [], alts := [], laidByText := true, laidKinds := [.data, .pinned], laidTests := true, laidLooks := .later }
def FnEscapedIsDecodedCardSaid : Prop := Claim7.holds Tryd.pinned (.plain (OpenSpec.ofChange fnEscapedIsDecodedSpec)) fnEscapedIsDecodedCard

/-- THE TIED CARD OF 'laws.FnIdentDecoded'. -/
def fnIdentDecodedCard : Claim7 := { stood := { row := fnIdentDecodedRow, standIns := [], harness := (true, "816c5d9e48deddf07c3564b4ccc53784f72cea14082f8deeb4c377bfbbb7e5cd"), looks := false }, kinds := [], alts := [], laidByText := true, laidKinds := [.data, .pinned], laidTests := true, laidLooks := .later }
def FnIdentDecodedCardSaid : Prop := Claim7.holds Tryd.pinned (.plain (OpenSpec.ofChange fnIdentDecodedSpec)) fnIdentDecodedCard

/-- THE TIED CARD OF 'laws.FnStringDecoded'. -/
def fnStringDecodedCard : Claim7 := { stood := { row := fnStringDecodedRow, standIns := [], harness := (true, "816c5d9e48deddf07c3564b4ccc53784f72cea14082f8deeb4c377bfbbb7e5cd"), looks := false }, kinds := [], alts := [], laidByText := true, laidKinds := [.data, .pinned], laidTests := true, laidLooks := .later }
def FnStringDecodedCardSaid : Prop := Claim7.holds Tryd.pinned (.plain (OpenSpec.ofChange fnStringDecodedSpec)) fnStringDecodedCard

/-- THE SECOND FORM's CARD OF 'laws.FnWouldStart'. -/
def fnWouldStartUptoCard : Claim7 := { stood := { row := fnWouldStartUptoRow, standIns := [], harness := (true, "816c5d9e48deddf07c3564b4ccc53784f72cea14082f8deeb4c377bfbbb7e5cd"), looks := false }, kinds := [], alts := [], laidByText := true, laidKinds := [.data, .pinned], laidTests := true, laidLooks := .later }
def FnWouldStartUptoCardSaid : Prop := Claim7.holds Tryd.pinned (.plain (OpenSpec.upto fnWouldStartSpec)) fnWouldStartUptoCard

/-- THE SECOND FORM's CARD OF 'laws.FnIdentEnd'. -/
def fnIdentEndUptoCard : Claim7 := { stood := { row := fnIdentEndUptoRow, standIns := [], harness := (true, "816c5d9e48deddf07c3564b4ccc53784f72cea14082f8deeb4c377bfbbb7e5cd"), looks := false }, kinds := [], alts := [], laidByText := true, laidKinds := [.data, .pinned], laidTests := true, laidLooks := .later }
def FnIdentEndUptoCardSaid : Prop := Claim7.holds Tryd.pinned (.plain (OpenSpec.upto fnIdentEndSpec)) fnIdentEndUptoCard

/-- THE SECOND FORM's CARD OF 'laws.FnDecoded'. -/
def fnDecodedUptoCard : Claim7 := { stood := { row := fnDecodedUptoRow, standIns := [], harness := (true, "816c5d9e48deddf07c3564b4ccc53784f72cea14082f8deeb4c377bfbbb7e5cd"), looks := false }, kinds := [], alts := [], laidByText := true, laidKinds := [.data, .pinned], laidTests := true, laidLooks := .later }
def FnDecodedUptoCardSaid : Prop := Claim7.holds Tryd.pinned (.plain (OpenSpec.upto fnDecodedSpec)) fnDecodedUptoCard

/-- THE SECOND FORM's CARD OF 'laws.FnDecodedInPieces'. -/
def fnDecodedInPiecesUptoCard : Claim7 := { stood := { row := fnDecodedInPiecesUptoRow, standIns := [], harness := (true, "816c5d9e48deddf07c3564b4ccc53784f72cea14082f8deeb4c377bfbbb7e5cd"), looks := false }, kinds := [], alts := [], laidByText := true, laidKinds := [.data, .pinned], laidTests := true, laidLooks := .later }
def FnDecodedInPiecesUptoCardSaid : Prop := Claim7.holds Tryd.pinned (.plain (OpenSpec.upto fnDecodedInPiecesSpec)) fnDecodedInPiecesUptoCard

/-- THE SECOND FORM's CARD OF 'laws.FnEscapedIsDecoded'. -/
def fnEscapedIsDecodedUptoCard : Claim7 := { stood := { row := fnEscapedIsDecodedUptoRow, standIns := [], harness := (true, "816c5d9e48deddf07c3564b4ccc53784f72cea14082f8deeb4c377bfbbb7e5cd"), looks := false }, kinds := [], alts := [], laidByText := true, laidKinds := [.data, .pinned], laidTests := true, laidLooks := .later }
def FnEscapedIsDecodedUptoCardSaid : Prop := Claim7.holds Tryd.pinned (.plain (OpenSpec.upto fnEscapedIsDecodedSpec)) fnEscapedIsDecodedUptoCard

/-- THE SECOND FORM's CARD OF 'laws.FnIdentDecoded'. -/
def fnIdentDecodedUptoCard : Claim7 := { stood := { row := fnIdentDecodedUptoRow, standIns := [], harness := (true, "816c5d9e48deddf07c3564b4ccc53784f72cea14082f8deeb4c377bfbbb7e5cd"), looks := false }, kinds := [], alts := [], laidByText := true, laidKinds := [.data, .pinned], laidTests := true, laidLooks := .later }
def FnIdentDecodedUptoCardSaid : Prop := Claim7.holds Tryd.pinned (.plain (OpenSpec.upto fnIdentDecodedSpec)) fnIdentDecodedUptoCard

/-- THE SECOND FORM's CARD OF 'laws.FnStringDecoded'. -/
def fnStringDecodedUptoCard : Claim7 := { stood := { row := fnStringDecodedUptoRow, standIns := [], harness := (true, "816c5d9e48deddf07c3564b4ccc53784f72cea14082f8deeb4c377bfbbb7e5cd"), looks := false }, kinds := [], alts := [], laidByText := true, laidKinds := [.data, .pinned], laidTests := true, laidLooks := .later }
def FnStringDecodedUptoCardSaid : Prop := Claim7.holds Tryd.pinned (.plain (OpenSpec.upto fnStringDecodedSpec)) fnStringDecodedUptoCard
end Rows
end Go.Proofs.YtmgkccnfhkcncaaDoor
