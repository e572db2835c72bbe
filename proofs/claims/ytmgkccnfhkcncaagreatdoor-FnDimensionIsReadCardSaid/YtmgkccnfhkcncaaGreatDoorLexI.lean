/-
  css_lexer's lexer in memory: one block of 41 cells; its place, as the bytes that are still to come.
-/
import Derived.Test.YtmgkccnfhkcncaaGreatDoorFrame
import Derived.Test.YtmgkccnfhkcncaaGreatDoorMathL
namespace Go.Proofs.YtmgkccnfhkcncaaGreatDoor
open Go.RowKit

/-- Block b is a lexer: P its cells that a token does not change; n: its ends of lines; cur: its place; cp: its code point; st, ln, uo, kd, fl: its token. -/
def LB (b : Nat) (P : Nat → Option Value) (n cur cp st ln uo kd fl : Int) (w : World) : Prop := ∃ cs : Array Value,
  w.heap[b]? = some (.cells cs 123 (0, 0)) ∧ cs.size = 41 ∧ (∀ i, i < 32 ∨ i = 34 → cs[i]? = P i) ∧ cs[32]? = some (.int .i64 n) ∧ cs[33]? = some (.int .i64 cur) ∧ cs[35]? = some (.int .i32 cp) ∧
  cs[36]? = some (.int .i32 st) ∧ cs[37]? = some (.int .i32 ln) ∧ cs[38]? = some (.int .u16 uo) ∧ cs[39]? = some (.int .u8 kd) ∧ cs[40]? = some (.int .u8 fl)
theorem LB.c {b : Nat} {P : Nat → Option Value} {n cur cp st ln uo kd fl : Int} {w : World} (h : LB b P n cur cp st ln uo kd fl w) :
    w.cell? ⟨b, 32, none⟩ = some (.int .i64 n) ∧ w.cell? ⟨b, 33, none⟩ = some (.int .i64 cur) ∧ w.cell? ⟨b, 35, none⟩ = some (.int .i32 cp) ∧ w.cell? ⟨b, 36, none⟩ = some (.int .i32 st) ∧ w.cell? ⟨b, 37, none⟩ = some (.int .i32 ln) ∧
    w.cell? ⟨b, 38, none⟩ = some (.int .u16 uo) ∧ w.cell? ⟨b, 39, none⟩ = some (.int .u8 kd) ∧ w.cell? ⟨b, 40, none⟩ = some (.int .u8 fl) := by
  obtain ⟨cs, hb, hs, hP, h32, h33, h35, h36, h37, h38, h39, h40⟩ := h
  refine ⟨?_, ?_, ?_, ?_, ?_, ?_, ?_, ?_⟩ <;> (rw [Lib.cell_of_heap hb]; assumption)
theorem LB.p {b : Nat} {P : Nat → Option Value} {n cur cp st ln uo kd fl : Int} {w : World} (h : LB b P n cur cp st ln uo kd fl w) (i : Nat) (hi : i < 32 ∨ i = 34) : w.cell? ⟨b, i, none⟩ = P i := by
  obtain ⟨cs, hb, hs, hP, _⟩ := h
  rw [Lib.cell_of_heap hb]; exact hP i hi
theorem LB.fz {b : Nat} {P : Nat → Option Value} {n cur cp st ln uo kd fl : Int} {w : World} (h : LB b P n cur cp st ln uo kd fl w) (i : Nat) : w.frozen? ⟨b, i, none⟩ = false := by
  obtain ⟨cs, hb, _⟩ := h
  exact Lib.frozen_of_heap hb i
theorem LB.lt {b : Nat} {P : Nat → Option Value} {n cur cp st ln uo kd fl : Int} {w : World} (h : LB b P n cur cp st ln uo kd fl w) : b < w.heap.size := by
  obtain ⟨cs, hb, _⟩ := h
  exact (Array.getElem?_eq_some_iff.1 hb).1
theorem LB.of {b : Nat} {P : Nat → Option Value} {n cur cp st ln uo kd fl : Int} {w w' : World} (h : LB b P n cur cp st ln uo kd fl w) (hb : w'.heap[b]? = w.heap[b]?) : LB b P n cur cp st ln uo kd fl w' := by
  obtain ⟨cs, hc, h⟩ := h
  exact ⟨cs, hb.trans hc, h⟩
theorem heap_put {w : World} {b : Nat} {cs : Array Value} {T : TypeId} (hb : w.heap[b]? = some (.cells cs T (0, 0))) (i : Nat) (v : Value) : (w.setCell ⟨b, i, none⟩ v).heap[b]? = some (.cells (cs.setIfInBounds i v) T (0, 0)) := by
  simp [World.setCell, Array.getElem?_modify, hb]
theorem LB.set32 {b : Nat} {P : Nat → Option Value} {n cur cp st ln uo kd fl : Int} {w : World} (h : LB b P n cur cp st ln uo kd fl w) (v : Int) : LB b P v cur cp st ln uo kd fl (w.setCell ⟨b, 32, none⟩ (.int .i64 v)) := by
  obtain ⟨cs, hb, hs, hP, h32, h33, h35, h36, h37, h38, h39, h40⟩ := h
  refine ⟨_, heap_put hb 32 _, by simpa using hs, fun i hi => ?_, ?_, ?_, ?_, ?_, ?_, ?_, ?_, ?_⟩
  · rw [Array.getElem?_setIfInBounds_ne (by omega)]; exact hP i hi
  · rw [Array.getElem?_setIfInBounds_self_of_lt (by omega)]
  all_goals (rw [Array.getElem?_setIfInBounds_ne (by omega)]; assumption)
theorem LB.set33 {b : Nat} {P : Nat → Option Value} {n cur cp st ln uo kd fl : Int} {w : World} (h : LB b P n cur cp st ln uo kd fl w) (v : Int) : LB b P n v cp st ln uo kd fl (w.setCell ⟨b, 33, none⟩ (.int .i64 v)) := by
  obtain ⟨cs, hb, hs, hP, h32, h33, h35, h36, h37, h38, h39, h40⟩ := h
  refine ⟨_, heap_put hb 33 _, by simpa using hs, fun i hi => ?_, ?_, ?_, ?_, ?_, ?_, ?_, ?_, ?_⟩
  · rw [Array.getElem?_setIfInBounds_ne (by omega)]; exact hP i hi
  · rw [Array.getElem?_setIfInBounds_ne (by omega)]; assumption
  · rw [Array.getElem?_setIfInBounds_self_of_lt (by omega)]
  all_goals (rw [Array.getElem?_setIfInBounds_ne (by omega)]; assumption)
theorem LB.set35 {b : Nat} {P : Nat → Option Value} {n cur cp st ln uo kd fl : Int} {w : World} (h : LB b P n cur cp st ln uo kd fl w) (v : Int) : LB b P n cur v st ln uo kd fl (w.setCell ⟨b, 35, none⟩ (.int .i32 v)) := by
  obtain ⟨cs, hb, hs, hP, h32, h33, h35, h36, h37, h38, h39, h40⟩ := h
  refine ⟨_, heap_put hb 35 _, by simpa using hs, fun i hi => ?_, ?_, ?_, ?_, ?_, ?_, ?_, ?_, ?_⟩
  · rw [Array.getElem?_setIfInBounds_ne (by omega)]; exact hP i hi
  · rw [Array.getElem?_setIfInBounds_ne (by omega)]; assumption
  · rw [Array.getElem?_setIfInBounds_ne (by omega)]; assumption
  · rw [Array.getElem?_setIfInBounds_self_of_lt (by omega)]
  all_goals (rw [Array.getElem?_setIfInBounds_ne (by omega)]; assumption)
theorem LB.set36 {b : Nat} {P : Nat → Option Value} {n cur cp st ln uo kd fl : Int} {w : World} (h : LB b P n cur cp st ln uo kd fl w) (v : Int) : LB b P n cur cp v ln uo kd fl (w.setCell ⟨b, 36, none⟩ (.int .i32 v)) := by
  obtain ⟨cs, hb, hs, hP, h32, h33, h35, h36, h37, h38, h39, h40⟩ := h
  refine ⟨_, heap_put hb 36 _, by simpa using hs, fun i hi => ?_, ?_, ?_, ?_, ?_, ?_, ?_, ?_, ?_⟩
  · rw [Array.getElem?_setIfInBounds_ne (by omega)]; exact hP i hi
  iterate 3 (· rw [Array.getElem?_setIfInBounds_ne (by omega)]; assumption)
  · rw [Array.getElem?_setIfInBounds_self_of_lt (by omega)]
  all_goals (rw [Array.getElem?_setIfInBounds_ne (by omega)]; assumption)
theorem LB.set37 {b : Nat} {P : Nat → Option Value} {n cur cp st ln uo kd fl : Int} {w : World} (h : LB b P n cur cp st ln uo kd fl w) (v : Int) : LB b P n cur cp st v uo kd fl (w.setCell ⟨b, 37, none⟩ (.int .i32 v)) := by
  obtain ⟨cs, hb, hs, hP, h32, h33, h35, h36, h37, h38, h39, h40⟩ := h
  refine ⟨_, heap_put hb 37 _, by simpa using hs, fun i hi => ?_, ?_, ?_, ?_, ?_, ?_, ?_, ?_, ?_⟩
  · rw [Array.getElem?_setIfInBounds_ne (by omega)]; exact hP i hi
  iterate 4 (· rw [Array.getElem?_setIfInBounds_ne (by omega)]; assumption)
  · rw [Array.getElem?_setIfInBounds_self_of_lt (by omega)]
  all_goals (rw [Array.getElem?_setIfInBounds_ne (by omega)]; assumption)
theorem LB.set38 {b : Nat} {P : Nat → Option Value} {n cur cp st ln uo kd fl : Int} {w : World} (h : LB b P n cur cp st ln uo kd fl w) (v : Int) : LB b P n cur cp st ln v kd fl (w.setCell ⟨b, 38, none⟩ (.int .u16 v)) := by
  obtain ⟨cs, hb, hs, hP, h32, h33, h35, h36, h37, h38, h39, h40⟩ := h
  refine ⟨_, heap_put hb 38 _, by simpa using hs, fun i hi => ?_, ?_, ?_, ?_, ?_, ?_, ?_, ?_, ?_⟩
  · rw [Array.getElem?_setIfInBounds_ne (by omega)]; exact hP i hi
  iterate 5 (· rw [Array.getElem?_setIfInBounds_ne (by omega)]; assumption)
  · rw [Array.getElem?_setIfInBounds_self_of_lt (by omega)]
  all_goals (rw [Array.getElem?_setIfInBounds_ne (by omega)]; assumption)
theorem LB.set39 {b : Nat} {P : Nat → Option Value} {n cur cp st ln uo kd fl : Int} {w : World} (h : LB b P n cur cp st ln uo kd fl w) (v : Int) : LB b P n cur cp st ln uo v fl (w.setCell ⟨b, 39, none⟩ (.int .u8 v)) := by
  obtain ⟨cs, hb, hs, hP, h32, h33, h35, h36, h37, h38, h39, h40⟩ := h
  refine ⟨_, heap_put hb 39 _, by simpa using hs, fun i hi => ?_, ?_, ?_, ?_, ?_, ?_, ?_, ?_, ?_⟩
  · rw [Array.getElem?_setIfInBounds_ne (by omega)]; exact hP i hi
  iterate 6 (· rw [Array.getElem?_setIfInBounds_ne (by omega)]; assumption)
  · rw [Array.getElem?_setIfInBounds_self_of_lt (by omega)]
  · rw [Array.getElem?_setIfInBounds_ne (by omega)]; assumption
theorem LB.set40 {b : Nat} {P : Nat → Option Value} {n cur cp st ln uo kd fl : Int} {w : World} (h : LB b P n cur cp st ln uo kd fl w) (v : Int) : LB b P n cur cp st ln uo kd v (w.setCell ⟨b, 40, none⟩ (.int .u8 v)) := by
  obtain ⟨cs, hb, hs, hP, h32, h33, h35, h36, h37, h38, h39, h40⟩ := h
  refine ⟨_, heap_put hb 40 _, by simpa using hs, fun i hi => ?_, ?_, ?_, ?_, ?_, ?_, ?_, ?_, ?_⟩
  · rw [Array.getElem?_setIfInBounds_ne (by omega)]; exact hP i hi
  iterate 7 (· rw [Array.getElem?_setIfInBounds_ne (by omega)]; assumption)
  · rw [Array.getElem?_setIfInBounds_self_of_lt (by omega)]

/-- The tables of unicode/utf8 stand as they stood when there was no block b yet. -/
def TB (b : Nat) (w : World) : Prop := ∃ w0 : World, Lib.Utf8Tabs 0 1 w0 ∧ w0.heap.size ≤ b ∧ Below w0.heap.size w0 w
theorem TB.tabs {b : Nat} {w : World} (h : TB b w) : Lib.Utf8Tabs 0 1 w := by
  obtain ⟨w0, h0, _, hb⟩ := h
  exact Utf8Tabs_below h0 hb
theorem TB.fr {b : Nat} {w w' : World} (h : TB b w) (f : Fr b w w') : TB b w' := by
  obtain ⟨w0, h0, hs, hb⟩ := h
  exact ⟨w0, h0, hs, hb.trans (f.below hs hb.size)⟩
/-! ### its place -/
/-- From byte k on the text is the bytes r. -/
structure AtB (s : ByteArray) (k : Nat) (r : List UInt8) : Prop where
  drop : s.data.toList.drop k = r
  le : k ≤ s.size
theorem AtB.size {s : ByteArray} {k : Nat} {r : List UInt8} (h : AtB s k r) : k + r.length = s.size := by
  have := congrArg List.length h.drop
  rw [List.length_drop] at this
  have e : s.data.toList.length = s.size := rfl
  have := h.le
  omega
theorem AtB.wle {s : ByteArray} {k : Nat} {r : List UInt8} (h : AtB s k r) : k + widB r ≤ s.size := by
  have := h.size; have := widB_le r; omega
theorem AtB.drop' {s : ByteArray} {k : Nat} {r : List UInt8} (h : AtB s k r) (n : Nat) (hn : n ≤ r.length) : AtB s (k + n) (r.drop n) :=
  ⟨by rw [← h.drop, List.drop_drop], by have := h.size; omega⟩
theorem AtB.tail {s : ByteArray} {k : Nat} {r : List UInt8} (h : AtB s k r) : AtB s (k + widB r) (tlB r) := by
  rw [tlB_drop]; exact h.drop' _ (widB_le r)
theorem AtB.unique {s : ByteArray} {k k' : Nat} {r : List UInt8} (h : AtB s k r) (h' : AtB s k' r) : k = k' := by
  have := h.size; have := h'.size; omega
theorem AtB.ext {s : ByteArray} {k : Nat} {r : List UInt8} (h : AtB s k r) : (s.extract k s.size).data.toList = r := by rw [Lib.extract_to_end]; exact h.drop
theorem AtB.get {s : ByteArray} {k : Nat} {r : List UInt8} (h : AtB s k r) (i : Nat) (hi : k + i < s.size) : r[i]? = some s[k + i] := by
  have := h.size
  rw [← h.drop, List.getElem?_drop]
  exact List.getElem?_eq_getElem (by show _ < s.data.toList.length; exact hi)
theorem AtB.none {s : ByteArray} {k : Nat} {r : List UInt8} (h : AtB s k r) (i : Nat) (hi : s.size ≤ k + i) : r[i]? = none := by
  have := h.size
  exact List.getElem?_eq_none (by omega)
/-- The lexer b stands ahead of the bytes r; its token has begun at byte st. -/
def LR (b : Nat) (P : Nat → Option Value) (s : ByteArray) (r : List UInt8) (st : Nat) (uo kd fl : Int) (w : World) : Prop :=
  TB b w ∧ P 10 = some (.string s) ∧ s.size ≤ 1073741824 ∧ ∃ (k n : Nat), AtB s k r ∧ st ≤ k ∧ n ≤ k + widB r ∧ LB b P n ((k + widB r : Nat) : Int) (hdB r) st ((k : Int) - st) uo kd fl w
theorem LR.fr {b : Nat} {P : Nat → Option Value} {s : ByteArray} {r : List UInt8} {st : Nat} {uo kd fl : Int} {w w' : World} (h : LR b P s r st uo kd fl w) (hb : Below w.heap.size w w') : LR b P s r st uo kd fl w' := by
  obtain ⟨hT, hP, hs, k, n, hA, hst, hn, hL⟩ := h
  exact ⟨hT.fr (Fr.of hb), hP, hs, k, n, hA, hst, hn, hL.of (hb.block b hL.lt)⟩
theorem LR.lt {b : Nat} {P : Nat → Option Value} {s : ByteArray} {r : List UInt8} {st : Nat} {uo kd fl : Int} {w : World} (h : LR b P s r st uo kd fl w) : b < w.heap.size := by
  obtain ⟨_, _, _, k, n, _, _, _, hL⟩ := h
  exact hL.lt
end Go.Proofs.YtmgkccnfhkcncaaGreatDoor
