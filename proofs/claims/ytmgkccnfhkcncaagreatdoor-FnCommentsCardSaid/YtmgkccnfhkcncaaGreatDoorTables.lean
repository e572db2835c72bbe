/-
  What each row's list of package-level variables gives: the two tables of unicode/utf8; a world for the witnesses in which both lie.
-/
import Derived.Test.YtmgkccnfhkcncaaGreatDoorShelf
import Derived.Test.YtmgkccnfhkcncaaGreatDoorRows
import Derived.Lib.LaidU8
import Derived.WalkKit
import Derived.ProofKit
import Derived.Deep.DeepHandedRow
namespace Go.Proofs.YtmgkccnfhkcncaaGreatDoor
open Go.RowKit

theorem own : ownKnob Tryz.prog.godebug = none := by kernel_rfl
theorem laidOut : laidOutB Tryz.prog = true := by kernel_rfl
theorem first_is : Go.Pinned.utf8First = Lib.firstData := by kernel_rfl
theorem accept_is : (Rows.laid_unicode_utf8_acceptRanges : DataW Unit) = Lib.acceptData := by kernel_rfl
theorem u8Extra : U8Extra Tryz.prog Tryz.lays260_ren where
  n3 := by kernel_rfl
  n4 := by kernel_rfl
  y3 := by kernel_rfl
  y4 := by kernel_rfl
  c5 := by kernel_rfl
  c119 := by kernel_rfl
  c138 := by kernel_rfl

/-- The list that every row of this seat bears. -/
abbrev tabList : List (String × DataW Unit) := Rows.fnIdentIsReadRow.laid

theorem tables {W : World} (h : laidMetH Tryz.prog tabList W) : Lib.Utf8Tabs 0 1 W := by
  have h : laidMet Tryz.prog tabList W := h
  have h3 := Lib.laidMet.reads h (show (_, Rows.laid_unicode_utf8_first) ∈ tabList from .tail _ (.head _))
  have h4 := Lib.laidMet.reads h (show (_, Rows.laid_unicode_utf8_acceptRanges) ∈ tabList from .head _)
  rw [show (Rows.laid_unicode_utf8_first : DataW Unit) = Lib.firstData from first_is] at h3
  rw [accept_is] at h4
  exact utf8Tabs_of_reads Tryz.lays260 u8Extra h3 h4

/-- The tables' cells, as their initialisers lay them. -/
def firstCells : Array Value := (Go.Pinned.utf8FirstZ.map fun (n : Nat) => Value.int .u8 (n : Int)).toArray
def acceptCells : Array Value := ((List.range 16).flatMap fun i => [Value.int .u8 (Lib.accLo i : Int), Value.int .u8 (Lib.accHi i : Int)]).toArray
def withCells (c : Array Value) : Obj → Obj
  | .cells _ t frozen => .cells c t frozen
  | o => o
/-- A world for the witnesses: the settled one, both tables laid. -/
noncomputable def laidWorld (os : Os) : World :=
  { World.holding Tryz.prog os ⟨#[], #[], []⟩ with heap := ((World.holding Tryz.prog os ⟨#[], #[], []⟩).heap.modify 0 (withCells firstCells)).modify 1 (withCells acceptCells) }
end Go.Proofs.YtmgkccnfhkcncaaGreatDoor
