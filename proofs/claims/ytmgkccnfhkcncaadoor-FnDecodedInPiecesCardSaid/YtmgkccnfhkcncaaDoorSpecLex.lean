/-
  The reference's lexer in memory: its four cells; peek, take.
-/
import Derived.Test.YtmgkccnfhkcncaaDoorMathE
import Derived.Test.YtmgkccnfhkcncaaDoorFrame
import Derived.Deep.QuietTactic
import Derived.BigQuiet
namespace Go.Proofs.YtmgkccnfhkcncaaDoor
open Go.RowKit

/-! ### the lexer's block -/
/-- Block b is a lexer: its text, its place, its comments, whether it is left open. -/
def SL (b : Nat) (s : ByteArray) (k : Nat) (cv : Value) (o : Bool) (w : World) : Prop :=
  w.heap[b]? = some (.cells #[.string s, .int .i64 (k : Int), cv, .bool o] 43 (0, 0))
theorem SL.c0 {b : Nat} {s : ByteArray} {k : Nat} {cv : Value} {o : Bool} {w : World} (h : SL b s k cv o w) : w.cell? ⟨b, 0, none⟩ = some (.string s) := by rw [Lib.cell_of_heap h]; rfl
theorem SL.c1 {b : Nat} {s : ByteArray} {k : Nat} {cv : Value} {o : Bool} {w : World} (h : SL b s k cv o w) : w.cell? ⟨b, 1, none⟩ = some (.int .i64 (k : Int)) := by rw [Lib.cell_of_heap h]; rfl
theorem SL.c2 {b : Nat} {s : ByteArray} {k : Nat} {cv : Value} {o : Bool} {w : World} (h : SL b s k cv o w) : w.cell? ⟨b, 2, none⟩ = some cv := by rw [Lib.cell_of_heap h]; rfl
theorem SL.c3 {b : Nat} {s : ByteArray} {k : Nat} {cv : Value} {o : Bool} {w : World} (h : SL b s k cv o w) : w.cell? ⟨b, 3, none⟩ = some (.bool o) := by rw [Lib.cell_of_heap h]; rfl
theorem SL.fz {b : Nat} {s : ByteArray} {k : Nat} {cv : Value} {o : Bool} {w : World} (h : SL b s k cv o w) (i : Nat) : w.frozen? ⟨b, i, none⟩ = false := Lib.frozen_of_heap h i
theorem SL.lt {b : Nat} {s : ByteArray} {k : Nat} {cv : Value} {o : Bool} {w : World} (h : SL b s k cv o w) : b < w.heap.size := by
  rcases Nat.lt_or_ge b w.heap.size with h' | h'
  · exact h'
  · unfold SL at h; simp [Array.getElem?_eq_none h'] at h
theorem SL.drewN {b : Nat} {s : ByteArray} {k : Nat} {cv : Value} {o : Bool} {w : World} (h : SL b s k cv o w) (n : Nat) : SL b s k cv o (w.drewN n) := h
theorem SL.setAt {b : Nat} {s : ByteArray} {k : Nat} {cv : Value} {o : Bool} {w : World} (h : SL b s k cv o w) (k' : Nat) : SL b s k' cv o (w.setCell ⟨b, 1, none⟩ (.int .i64 (k' : Int))) := by
  unfold SL at *
  simp [World.setCell, Array.getElem?_modify, h]
theorem SL.setOpen {b : Nat} {s : ByteArray} {k : Nat} {cv : Value} {o : Bool} {w : World} (h : SL b s k cv o w) (o' : Bool) : SL b s k cv o' (w.setCell ⟨b, 3, none⟩ (.bool o')) := by
  unfold SL at *
  simp [World.setCell, Array.getElem?_modify, h]
theorem SL.setComments {b : Nat} {s : ByteArray} {k : Nat} {cv : Value} {o : Bool} {w : World} (h : SL b s k cv o w) (cv' : Value) : SL b s k cv' o (w.setCell ⟨b, 2, none⟩ cv') := by
  unfold SL at *
  simp [World.setCell, Array.getElem?_modify, h]

/-! ### its place, as the code points that are still to come -/
/-- From byte k on the text is the code points l. -/
structure At (s : ByteArray) (k : Nat) (l : List Nat) : Prop where
  drop : s.data.toList.drop k = encs l
  le : k ≤ s.size
  cp : ∀ c ∈ l, Cp c
  hz : s.size ≤ 4294967296
/-- How many bytes the next code point has. -/
def wid : List Nat → Nat
  | [] => 0
  | c :: _ => (enc c).length
theorem At.size {s : ByteArray} {k : Nat} {l : List Nat} (h : At s k l) : k + (encs l).length = s.size := by
  have := congrArg List.length h.drop
  rw [List.length_drop] at this
  have e : s.data.toList.length = s.size := rfl
  have := h.le
  omega
theorem At.wle {s : ByteArray} {k : Nat} {l : List Nat} (h : At s k l) : k + wid l ≤ s.size := by
  have := h.size
  cases l with
  | nil => exact h.le
  | cons c t => rw [encs_cons, List.length_append] at this; show k + (enc c).length ≤ _; omega
theorem At.tail {s : ByteArray} {k : Nat} {l : List Nat} (h : At s k l) : At s (k + wid l) l.tail := by
  refine ⟨?_, h.wle, fun c hc => h.cp c (List.mem_of_mem_tail hc), h.hz⟩
  cases l with
  | nil => exact h.drop
  | cons c t =>
    show s.data.toList.drop (k + (enc c).length) = encs t
    rw [← List.drop_drop, h.drop, drop_encs]
theorem At.unique {s : ByteArray} {k k' : Nat} {l : List Nat} (h : At s k l) (h' : At s k' l) : k = k' := by
  have := h.size; have := h'.size; omega
theorem runeAt_at {s : ByteArray} {k : Nat} {l : List Nat} (h : At s k l) (w : World) :
    Calls Tryd.prog 24 #[.string s, .int .i64 k] w fun e w' => e = .returned (.tuple #[.int .i64 (cpAt l 0), .int .i64 (wid l : Nat)]) ∧ w = w' := by
  cases l with
  | nil => exact runeAt_stop s k w h.hz h.drop
  | cons c t => exact runeAt_cp s k w h.hz c t (h.cp c (by simp)) h.drop
theorem cpAt_drop (l : List Nat) (j i : Nat) : cpAt (l.drop i) j = cpAt l (i + j) := by unfold cpAt; rw [List.getElem?_drop]
theorem At.next {s : ByteArray} {k i : Nat} {l : List Nat} (h : At s k (l.drop i)) : ∃ n, wid (l.drop i) = n ∧ k + n ≤ s.size ∧ At s (k + n) (l.drop (i + 1)) :=
  ⟨_, rfl, h.wle, by have := h.tail; rwa [List.tail_drop] at this⟩
/-- The lexer b stands ahead of the code points l. -/
def SR (b : Nat) (s : ByteArray) (l : List Nat) (cv : Value) (o : Bool) (w : World) : Prop := ∃ k, At s k l ∧ SL b s k cv o w

set_option maxHeartbeats 2000000 in
set_option maxRecDepth 100000 in
theorem peekL (b : Nat) (s : ByteArray) (l : List Nat) (cv : Value) (o : Bool) (w : World) (h : SR b s l cv o w) (j : Nat) (hj : j ≤ 3) :
    Calls Tryd.prog 28 #[.pointer (some ⟨b, 0, none⟩), .int .i64 j] w fun e w' => e = .returned (.int .i64 (cpAt l j)) ∧ w' = w := by
  obtain ⟨k, hA, hL⟩ := h
  have c0 := hL.c0
  have c1 := hL.c1
  have hz := hA.hz
  have hk := hA.le
  have R := Lib.hid (fun k l (h : At s k l) w => runeAt_at h w)
  have START := Lib.hid (show At s k (l.drop 0) from hA)
  clear hL hA
  go_enter Tryd.func28, Tryd.ntmps28
  go_wp2
  go_loop [5, 15] (fun at_ i_ => ∃ (k' i : Nat), at_ = .int .i64 k' ∧ i_ = .int .i64 i ∧ k' ≤ s.size ∧ i ≤ j ∧ At s k' (l.drop i)) (fun _ i_ => j - (intOf i_).toNat)
  case atStart => exact ⟨k, 0, rfl, rfl, hk, Nat.zero_le _, START.out⟩
  case round =>
    obtain ⟨k', i, rfl, rfl, hk', hi, hA⟩ := hrel
    have C := Lib.hid (R.out _ _ hA)
    by_cases hij : i < j
    · obtain ⟨n, hn, hkn, hA'⟩ := hA.next
      rw [hn] at C
      have NX := Lib.hid hA'
      clear hA hA' hn
      go_wp2_with (go_at_call 24; refine (C.out _).mono ?_; rintro e w' ⟨rfl, rfl⟩)
      go_round
      case rel => exact ⟨k' + n, i + 1, by go_num, by go_num, hkn, hij, NX.out⟩
      case measure => simp [intOf]; omega
    · have hfin : cpAt (l.drop i) 0 = cpAt l j := by rw [cpAt_drop]; congr 1; omega
      rw [hfin] at C
      clear hA hfin
      go_wp2_with (go_at_call 24; refine (C.out _).mono ?_; rintro e w' ⟨rfl, rfl⟩)
      go_ret
      exact ⟨rfl, rfl⟩

set_option maxHeartbeats 2000000 in
set_option maxRecDepth 100000 in
theorem takeL (b : Nat) (s : ByteArray) (l : List Nat) (cv : Value) (o : Bool) (w : World) (h : SR b s l cv o w) :
    Calls Tryd.prog 42 #[.pointer (some ⟨b, 0, none⟩)] w fun e w' => e = .returned (.int .i64 (cpAt l 0)) ∧ SR b s l.tail cv o w' ∧ Fr b w w' := by
  obtain ⟨k, hA, hL⟩ := h
  have c0 := hL.c0
  have c1 := hL.c1
  have f1 := hL.fz 1
  have hz := hA.hz
  have hk := hA.le
  have C := Lib.hid (fun w => (runeAt_at hA w).mono fun _ _ ⟨he, hw⟩ => (⟨he, hw.symm⟩ : _ ∧ _))
  obtain ⟨n, hn⟩ : ∃ n, wid l = n := ⟨_, rfl⟩
  have hw := hA.wle
  have ht := hA.tail
  rw [hn] at C hw ht
  have T := Lib.hid ht
  have LL := Lib.hid hL
  clear hL hA ht hn
  go_enter Tryd.func42, Tryd.ntmps42
  go_wp2_with fail
  go_quiet ((go_at_call 24; exact Calls.quiet_of_same (C.out _)))
  go_wp2
  go_ret
  refine ⟨rfl, ⟨k + n, T.out, ?_⟩, (Fr.drewN b nq w).trans (Fr.setCell _ 1 _)⟩
  have := (LL.out.drewN nq).setAt (k + n)
  rwa [Int.natCast_add] at this
end Go.Proofs.YtmgkccnfhkcncaaDoor
