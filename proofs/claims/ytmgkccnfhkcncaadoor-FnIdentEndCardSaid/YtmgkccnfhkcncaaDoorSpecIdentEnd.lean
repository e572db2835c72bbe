/-
  spec.IdentEnd.
-/
import Derived.Test.YtmgkccnfhkcncaaDoorSpecNm
namespace Go.Proofs.YtmgkccnfhkcncaaDoor
open Go.RowKit

theorem SL.fresh (s : ByteArray) (k : Nat) (w : World) : SL w.heap.size s k (.slice none 0 0) false (w.alloc (.cells #[.string s, .int .i64 (k : Int), .slice none 0 0, .bool false] 43)) := by
  unfold SL
  exact heap_alloc_new _ _

set_option maxHeartbeats 2000000 in
set_option maxRecDepth 100000 in
theorem identEndNo (s : ByteArray) (k : Nat) (l : List Nat) (w : World) (hA : At s k l) (h : identZ (cpAt l 0) (cpAt l 1) (cpAt l 2) = false) :
    Calls Tryd.prog 14 #[.string s, .int .i64 k] w fun e w' => e = .returned (.tuple #[.int .i64 0, .bool false]) ∧ Below w.heap.size w w' := by
  have START := Lib.hid (show SR w.heap.size s l (.slice none 0 0) false _ from ⟨k, hA, SL.fresh s k w⟩)
  have I := Lib.hid (fun w => specIdentifies (cpAt l 0) (cpAt l 1) (cpAt l 2) w)
  rw [h] at I
  clear hA h
  go_enter Tryd.func14, Tryd.ntmps14
  go_wp2_with fail
  refine (peek0 _ s l _ _ _ START.out).mono ?_
  rintro e w' ⟨rfl, rfl⟩
  go_wp2_with fail
  refine (peek1 _ s l _ _ _ START.out).mono ?_
  rintro e w' ⟨rfl, rfl⟩
  go_wp2_with fail
  refine (peek2 _ s l _ _ _ START.out).mono ?_
  rintro e w' ⟨rfl, rfl⟩
  go_wp2_with fail
  refine (I.out _).mono ?_
  rintro e w' ⟨rfl, rfl⟩
  go_wp2
  go_ret2
  exact ⟨rfl, (Below.refl _ _).alloc (Nat.le_refl _) _⟩

set_option maxHeartbeats 2000000 in
set_option maxRecDepth 100000 in
theorem identEndYes (s : ByteArray) (k : Nat) (l : List Nat) (w : World) (hA : At s k l) (h : identZ (cpAt l 0) (cpAt l 1) (cpAt l 2) = true) :
    Calls Tryd.prog 14 #[.string s, .int .i64 k] w fun e w' => (∃ k', e = .returned (.tuple #[.int .i64 ((k' : Nat) : Int), .bool (!(nameS l).2.2)]) ∧ At s k' (nameS l).2.1) ∧ Below w.heap.size w w' := by
  have START := Lib.hid (show SR w.heap.size s l (.slice none 0 0) false _ from ⟨k, hA, SL.fresh s k w⟩)
  have I := Lib.hid (fun w => specIdentifies (cpAt l 0) (cpAt l 1) (cpAt l 2) w)
  rw [h] at I
  clear hA h
  have hB : Below w.heap.size w (w.alloc (.cells #[.string s, .int .i64 (k : Int), .slice none 0 0, .bool false] 43)) := (Below.refl _ _).alloc (Nat.le_refl _) _
  have hsz : w.heap.size ≤ (w.alloc (.cells #[.string s, .int .i64 (k : Int), .slice none 0 0, .bool false] 43)).heap.size := hB.size
  have HB := Lib.hid hB
  have HS := Lib.hid hsz
  clear hB hsz
  go_enter Tryd.func14, Tryd.ntmps14
  go_wp2_with fail
  refine (peek0 _ s l _ _ _ START.out).mono ?_
  rintro e w' ⟨rfl, rfl⟩
  go_wp2_with fail
  refine (peek1 _ s l _ _ _ START.out).mono ?_
  rintro e w' ⟨rfl, rfl⟩
  go_wp2_with fail
  refine (peek2 _ s l _ _ _ START.out).mono ?_
  rintro e w' ⟨rfl, rfl⟩
  go_wp2_with fail
  refine (I.out _).mono ?_
  rintro e w' ⟨rfl, rfl⟩
  go_wp2_with fail
  refine (nameL _ s l _ _ _ START.out).mono ?_
  rintro e w2 ⟨rfl, ⟨k', hA', hL'⟩, f2⟩
  have c1 := hL'.c1
  have c3 := hL'.c3
  have AA := Lib.hid hA'
  have FF := Lib.hid (HB.out.trans (f2.below (Nat.le_refl _) HS.out))
  clear hA' hL' f2
  rw [Bool.false_or] at c3
  go_wp2_with fail
  go_quiet (fail)
  go_wp2
  go_ret2
  exact ⟨⟨k', rfl, AA.out⟩, FF.out.trans (below_draws _ _ _)⟩
end Go.Proofs.YtmgkccnfhkcncaaDoor
