/-
  css_lexer's lexer in memory: one block of 41 cells; its place, as the bytes that are still to come. css_lexer's lexer: step. css_lexer's lexer: isValidEscape, wouldStartIdentifier.
-/
import Derived.Test.YtmgkccnfhkcncaaGreatDoorUnt
import Derived.Test.YtmgkccnfhkcncaaGreatDoorMG
import Derived.Deep.RegionHeld3
import Derived.RegionTactic
import Derived.Deep.DrawnRows
import Derived.Test.YtmgkccnfhkcncaaGreatDoorChr
import Derived.IntWalk
namespace Go.Proofs.YtmgkccnfhkcncaaGreatDoor
open Go.RowKit

/-- Block b is a lexer: P its cells that a token does not change; n: its ends of lines; cur: its place; cp: its code point; st, ln, uo, kd, fl: its token. -/
def LB (b : Nat) (P : Nat → Option Value) (n cur cp st ln uo kd fl : Int) (w : World) : Prop := ∃ cs : Array Value,
  w.heap[b]? = some (.cells cs 123 (0, 0)) ∧ cs.size = 41 ∧ (∀ i, i < 32 ∨ i = 34 → cs[i]? = P i) ∧ cs[32]? = some (.int .i64 n) ∧ cs[33]? = some (.int .i64 cur) ∧ cs[35]? = some (.int .i32 cp) ∧
  cs[36]? = some (.int .i32 st) ∧ cs[37]? = some (.int .i32 ln) ∧ cs[38]? = some (.int .u16 uo) ∧ cs[39]? = some (.int .u8 kd) ∧ cs[40]? = some (.int .u8 fl)
theorem LB.c {b : Nat} {P : Nat → Option Value} {n cur cp st ln uo kd fl : Int} {w : World} (h : LB b P n cur cp st ln uo kd fl w) :
    w.cell? ⟨b, 32, none⟩ = some (.int .i64 n) ∧ w.cell? ⟨b, 33, none⟩ = some (.int .i64 cur) ∧ w.cell? ⟨b, 35, none⟩ = some (.int .i32 cp) ∧ w.cell? ⟨b, 36, none⟩ = some (.int .i32 st) ∧ w.cell? ⟨b, 37, none⟩ = some (.int .i32 ln) ∧
    w.cell? ⟨b, 38, none⟩ = some (.int .u16 uo) ∧ w.cell? ⟨b, 39, none⟩ = some (.int .u8 kd) ∧ w.cell? ⟨b, 40, none⟩ = some (.int .u8 fl) := by
  obtain ⟨cs, hb, hs, hP, h32, h33, h35, h36, h37, h38, h39, h40⟩ := h
  refine ⟨?_, ?_, ?_, ?_, ?_, ?_, ?_, ?_⟩ <;> (rw [Lib.cell_of_heap hb]; assumption)
theorem LB.p {b : Nat} {P : Nat → Option Value} {n cur cp st ln uo kd fl : Int} {w : World} (h : LB b P n cur cp st ln uo kd fl w) (i : Nat) (hi : i < 32 ∨ i = 34) : w.cell? ⟨b, i, none⟩ = P i := by
  obtain ⟨cs, hb, hs, hP, _⟩ := h
  rw [Lib.cell_of_heap hb]; exact hP i hi
theorem LB.fz {b : Nat} {P : Nat → Option Value} {n cur cp st ln uo kd fl : Int} {w : World} (h : LB b P n cur cp st ln uo kd fl w) (i : Nat) : w.frozen? ⟨b, i, none⟩ = false := by
  obtain ⟨cs, hb, _⟩ := h
  exact Lib.frozen_of_heap hb i
theorem LB.lt {b : Nat} {P : Nat → Option Value} {n cur cp st ln uo kd fl : Int} {w : World} (h : LB b P n cur cp st ln uo kd fl w) : b < w.heap.size := by
  obtain ⟨cs, hb, _⟩ := h
  exact (Array.getElem?_eq_some_iff.1 hb).1
theorem LB.of {b : Nat} {P : Nat → Option Value} {n cur cp st ln uo kd fl : Int} {w w' : World} (h : LB b P n cur cp st ln uo kd fl w) (hb : w'.heap[b]? = w.heap[b]?) : LB b P n cur cp st ln uo kd fl w' := by
  obtain ⟨cs, hc, h⟩ := h
  exact ⟨cs, hb.trans hc, h⟩
theorem heap_put {w : World} {b : Nat} {cs : Array Value} {T : TypeId} (hb : w.heap[b]? = some (.cells cs T (0, 0))) (i : Nat) (v : Value) : (w.setCell ⟨b, i, none⟩ v).heap[b]? = some (.cells (cs.setIfInBounds i v) T (0, 0)) := by
  simp [World.setCell, Array.getElem?_modify, hb]
theorem LB.set32 {b : Nat} {P : Nat → Option Value} {n cur cp st ln uo kd fl : Int} {w : World} (h : LB b P n cur cp st ln uo kd fl w) (v : Int) : LB b P v cur cp st ln uo kd fl (w.setCell ⟨b, 32, none⟩ (.int .i64 v)) := by
  obtain ⟨cs, hb, hs, hP, h32, h33, h35, h36, h37, h38, h39, h40⟩ := h
  refine ⟨_, heap_put hb 32 _, by simpa using hs, fun i hi => ?_, ?_, ?_, ?_, ?_, ?_, ?_, ?_, ?_⟩
  · rw [Array.getElem?_setIfInBounds_ne (by omega)]; exact hP i hi
  · rw [Array.getElem?_setIfInBounds_self_of_lt (by omega)]
  all_goals (rw [Array.getElem?_setIfInBounds_ne (by omega)]; assumption)
theorem LB.set33 {b : Nat} {P : Nat → Option Value} {n cur cp st ln uo kd fl : Int} {w : World} (h : LB b P n cur cp st ln uo kd fl w) (v : Int) : LB b P n v cp st ln uo kd fl (w.setCell ⟨b, 33, none⟩ (.int .i64 v)) := by
  obtain ⟨cs, hb, hs, hP, h32, h33, h35, h36, h37, h38, h39, h40⟩ := h
  refine ⟨_, heap_put hb 33 _, by simpa using hs, fun i hi => ?_, ?_, ?_, ?_, ?_, ?_, ?_, ?_, ?_⟩
  · rw [Array.getElem?_setIfInBounds_ne (by omega)]; exact hP i hi
  · rw [Array.getElem?_setIfInBounds_ne (by omega)]; assumption
  · rw [Array.getElem?_setIfInBounds_self_of_lt (by omega)]
  all_goals (rw [Array.getElem?_setIfInBounds_ne (by omega)]; assumption)
theorem LB.set35 {b : Nat} {P : Nat → Option Value} {n cur cp st ln uo kd fl : Int} {w : World} (h : LB b P n cur cp st ln uo kd fl w) (v : Int) : LB b P n cur v st ln uo kd fl (w.setCell ⟨b, 35, none⟩ (.int .i32 v)) := by
  obtain ⟨cs, hb, hs, hP, h32, h33, h35, h36, h37, h38, h39, h40⟩ := h
  refine ⟨_, heap_put hb 35 _, by simpa using hs, fun i hi => ?_, ?_, ?_, ?_, ?_, ?_, ?_, ?_, ?_⟩
  · rw [Array.getElem?_setIfInBounds_ne (by omega)]; exact hP i hi
  · rw [Array.getElem?_setIfInBounds_ne (by omega)]; assumption
  · rw [Array.getElem?_setIfInBounds_ne (by omega)]; assumption
  · rw [Array.getElem?_setIfInBounds_self_of_lt (by omega)]
  all_goals (rw [Array.getElem?_setIfInBounds_ne (by omega)]; assumption)
theorem LB.set36 {b : Nat} {P : Nat → Option Value} {n cur cp st ln uo kd fl : Int} {w : World} (h : LB b P n cur cp st ln uo kd fl w) (v : Int) : LB b P n cur cp v ln uo kd fl (w.setCell ⟨b, 36, none⟩ (.int .i32 v)) := by
  obtain ⟨cs, hb, hs, hP, h32, h33, h35, h36, h37, h38, h39, h40⟩ := h
  refine ⟨_, heap_put hb 36 _, by simpa using hs, fun i hi => ?_, ?_, ?_, ?_, ?_, ?_, ?_, ?_, ?_⟩
  · rw [Array.getElem?_setIfInBounds_ne (by omega)]; exact hP i hi
  iterate 3 (· rw [Array.getElem?_setIfInBounds_ne (by omega)]; assumption)
  · rw [Array.getElem?_setIfInBounds_self_of_lt (by omega)]
  all_goals (rw [Array.getElem?_setIfInBounds_ne (by omega)]; assumption)
theorem LB.set37 {b : Nat} {P : Nat → Option Value} {n cur cp st ln uo kd fl : Int} {w : World} (h : LB b P n cur cp st ln uo kd fl w) (v : Int) : LB b P n cur cp st v uo kd fl (w.setCell ⟨b, 37, none⟩ (.int .i32 v)) := by
  obtain ⟨cs, hb, hs, hP, h32, h33, h35, h36, h37, h38, h39, h40⟩ := h
  refine ⟨_, heap_put hb 37 _, by simpa using hs, fun i hi => ?_, ?_, ?_, ?_, ?_, ?_, ?_, ?_, ?_⟩
  · rw [Array.getElem?_setIfInBounds_ne (by omega)]; exact hP i hi
  iterate 4 (· rw [Array.getElem?_setIfInBounds_ne (by omega)]; assumption)
  · rw [Array.getElem?_setIfInBounds_self_of_lt (by omega)]
  all_goals (rw [Array.getElem?_setIfInBounds_ne (by omega)]; assumption)
theorem LB.set38 {b : Nat} {P : Nat → Option Value} {n cur cp st ln uo kd fl : Int} {w : World} (h : LB b P n cur cp st ln uo kd fl w) (v : Int) : LB b P n cur cp st ln v kd fl (w.setCell ⟨b, 38, none⟩ (.int .u16 v)) := by
  obtain ⟨cs, hb, hs, hP, h32, h33, h35, h36, h37, h38, h39, h40⟩ := h
  refine ⟨_, heap_put hb 38 _, by simpa using hs, fun i hi => ?_, ?_, ?_, ?_, ?_, ?_, ?_, ?_, ?_⟩
  · rw [Array.getElem?_setIfInBounds_ne (by omega)]; exact hP i hi
  iterate 5 (· rw [Array.getElem?_setIfInBounds_ne (by omega)]; assumption)
  · rw [Array.getElem?_setIfInBounds_self_of_lt (by omega)]
  all_goals (rw [Array.getElem?_setIfInBounds_ne (by omega)]; assumption)
theorem LB.set39 {b : Nat} {P : Nat → Option Value} {n cur cp st ln uo kd fl : Int} {w : World} (h : LB b P n cur cp st ln uo kd fl w) (v : Int) : LB b P n cur cp st ln uo v fl (w.setCell ⟨b, 39, none⟩ (.int .u8 v)) := by
  obtain ⟨cs, hb, hs, hP, h32, h33, h35, h36, h37, h38, h39, h40⟩ := h
  refine ⟨_, heap_put hb 39 _, by simpa using hs, fun i hi => ?_, ?_, ?_, ?_, ?_, ?_, ?_, ?_, ?_⟩
  · rw [Array.getElem?_setIfInBounds_ne (by omega)]; exact hP i hi
  iterate 6 (· rw [Array.getElem?_setIfInBounds_ne (by omega)]; assumption)
  · rw [Array.getElem?_setIfInBounds_self_of_lt (by omega)]
  · rw [Array.getElem?_setIfInBounds_ne (by omega)]; assumption
theorem LB.set40 {b : Nat} {P : Nat → Option Value} {n cur cp st ln uo kd fl : Int} {w : World} (h : LB b P n cur cp st ln uo kd fl w) (v : Int) : LB b P n cur cp st ln uo kd v (w.setCell ⟨b, 40, none⟩ (.int .u8 v)) := by
  obtain ⟨cs, hb, hs, hP, h32, h33, h35, h36, h37, h38, h39, h40⟩ := h
  refine ⟨_, heap_put hb 40 _, by simpa using hs, fun i hi => ?_, ?_, ?_, ?_, ?_, ?_, ?_, ?_, ?_⟩
  · rw [Array.getElem?_setIfInBounds_ne (by omega)]; exact hP i hi
  iterate 7 (· rw [Array.getElem?_setIfInBounds_ne (by omega)]; assumption)
  · rw [Array.getElem?_setIfInBounds_self_of_lt (by omega)]

/-- The tables of unicode/utf8 stand as they stood when there was no block b yet. -/
def TB (b : Nat) (w : World) : Prop := ∃ w0 : World, Lib.Utf8Tabs 0 1 w0 ∧ w0.heap.size ≤ b ∧ Below w0.heap.size w0 w
theorem TB.tabs {b : Nat} {w : World} (h : TB b w) : Lib.Utf8Tabs 0 1 w := by
  obtain ⟨w0, h0, _, hb⟩ := h
  exact Utf8Tabs_below h0 hb
theorem TB.fr {b : Nat} {w w' : World} (h : TB b w) (f : Fr b w w') : TB b w' := by
  obtain ⟨w0, h0, hs, hb⟩ := h
  exact ⟨w0, h0, hs, hb.trans (f.below hs hb.size)⟩
/-! ### its place -/
/-- From byte k on the text is the bytes r. -/
structure AtB (s : ByteArray) (k : Nat) (r : List UInt8) : Prop where
  drop : s.data.toList.drop k = r
  le : k ≤ s.size
theorem AtB.size {s : ByteArray} {k : Nat} {r : List UInt8} (h : AtB s k r) : k + r.length = s.size := by
  have := congrArg List.length h.drop
  rw [List.length_drop] at this
  have e : s.data.toList.length = s.size := rfl
  have := h.le
  omega
theorem AtB.wle {s : ByteArray} {k : Nat} {r : List UInt8} (h : AtB s k r) : k + widB r ≤ s.size := by
  have := h.size; have := widB_le r; omega
theorem AtB.drop' {s : ByteArray} {k : Nat} {r : List UInt8} (h : AtB s k r) (n : Nat) (hn : n ≤ r.length) : AtB s (k + n) (r.drop n) :=
  ⟨by rw [← h.drop, List.drop_drop], by have := h.size; omega⟩
theorem AtB.tail {s : ByteArray} {k : Nat} {r : List UInt8} (h : AtB s k r) : AtB s (k + widB r) (tlB r) := by
  rw [tlB_drop]; exact h.drop' _ (widB_le r)
theorem AtB.unique {s : ByteArray} {k k' : Nat} {r : List UInt8} (h : AtB s k r) (h' : AtB s k' r) : k = k' := by
  have := h.size; have := h'.size; omega
theorem AtB.ext {s : ByteArray} {k : Nat} {r : List UInt8} (h : AtB s k r) : (s.extract k s.size).data.toList = r := by rw [Lib.extract_to_end]; exact h.drop
theorem AtB.get {s : ByteArray} {k : Nat} {r : List UInt8} (h : AtB s k r) (i : Nat) (hi : k + i < s.size) : r[i]? = some s[k + i] := by
  have := h.size
  rw [← h.drop, List.getElem?_drop]
  exact List.getElem?_eq_getElem (by show _ < s.data.toList.length; exact hi)
theorem AtB.none {s : ByteArray} {k : Nat} {r : List UInt8} (h : AtB s k r) (i : Nat) (hi : s.size ≤ k + i) : r[i]? = none := by
  have := h.size
  exact List.getElem?_eq_none (by omega)
/-- The lexer b stands ahead of the bytes r; its token has begun at byte st. -/
def LR (b : Nat) (P : Nat → Option Value) (s : ByteArray) (r : List UInt8) (st : Nat) (uo kd fl : Int) (w : World) : Prop :=
  TB b w ∧ P 10 = some (.string s) ∧ s.size ≤ 1073741824 ∧ ∃ (k n : Nat), AtB s k r ∧ st ≤ k ∧ n ≤ k + widB r ∧ LB b P n ((k + widB r : Nat) : Int) (hdB r) st ((k : Int) - st) uo kd fl w
theorem LR.fr {b : Nat} {P : Nat → Option Value} {s : ByteArray} {r : List UInt8} {st : Nat} {uo kd fl : Int} {w w' : World} (h : LR b P s r st uo kd fl w) (hb : Below w.heap.size w w') : LR b P s r st uo kd fl w' := by
  obtain ⟨hT, hP, hs, k, n, hA, hst, hn, hL⟩ := h
  exact ⟨hT.fr (Fr.of hb), hP, hs, k, n, hA, hst, hn, hL.of (hb.block b hL.lt)⟩
theorem LR.lt {b : Nat} {P : Nat → Option Value} {s : ByteArray} {r : List UInt8} {st : Nat} {uo kd fl : Int} {w : World} (h : LR b P s r st uo kd fl w) : b < w.heap.size := by
  obtain ⟨_, _, _, k, n, _, _, _, hL⟩ := h
  exact hL.lt
end Go.Proofs.YtmgkccnfhkcncaaGreatDoor

namespace Go.Proofs.YtmgkccnfhkcncaaGreatDoor
open Go.RowKit
attribute [local go_sem ↓] Go.wp_at_zero Go.wp_at_succ

theorem below_undrew {w w1 : World} (h : Below w.drew.heap.size w.drew w1) : Below w.heap.size w w1 := ⟨h.os, h.tape, h.output, h.size, h.block⟩
theorem decodeAt {s : ByteArray} {k : Nat} {r : List UInt8} (h : AtB s k r) (w : World) (hT : Lib.Utf8Tabs 0 1 w) :
    Calls Tryz.prog 64 #[.string (s.extract k s.size)] w fun e w' => e = .returned (.tuple #[.int .i32 ((decG r).1 : Nat), .int .i64 (widB r : Nat)]) ∧ Below w.heap.size w w' := by
  have hr := decodeRune (s.extract k s.size) w hT
  rw [h.ext] at hr
  exact hr
theorem decG_range (r : List UInt8) : (decG r).1 ≤ 1114111 ∧ (decG r).2 ≤ 4 := by
  unfold decG
  split
  · exact ⟨by decide, by decide⟩
  · exact ⟨Lib.decodeL_rune r, by rw [Lib.decodeL_N]; exact decodeN_w4 _ _ _ _ _⟩

theorem step_close {b : Nat} {P : Nat → Option Value} {s : ByteArray} {r : List UInt8} {K n st m : Nat} {cp ln uo kd fl v : Int} {w w2 : World} (hT : TB b w) (hP : P 10 = some (.string s)) (hs : s.size ≤ 1073741824) (hA : AtB s K r) (hst : st ≤ K)
    (hL : LB b P n K cp st ln uo kd fl w2) (f2 : Fr b w w2) (hn : n ≤ K + widB r) (hv : v = hdB r) (hm : widB r = m) :
    LR b P s r st uo kd fl ((((w2.setCell ⟨b, 35, none⟩ (.int .i32 v)).setCell ⟨b, 37, none⟩ (.int .i32 ((K : Int) - st))).setCell ⟨b, 33, none⟩ (.int .i64 ((K : Int) + m))).drew) ∧
    Fr b w ((((w2.setCell ⟨b, 35, none⟩ (.int .i32 v)).setCell ⟨b, 37, none⟩ (.int .i32 ((K : Int) - st))).setCell ⟨b, 33, none⟩ (.int .i64 ((K : Int) + m))).drew) := by
  have f : Fr b w ((((w2.setCell ⟨b, 35, none⟩ (.int .i32 v)).setCell ⟨b, 37, none⟩ (.int .i32 ((K : Int) - st))).setCell ⟨b, 33, none⟩ (.int .i64 ((K : Int) + m))).drew) :=
    (((f2.trans (Fr.setCell _ 35 _)).trans (Fr.setCell _ 37 _)).trans (Fr.setCell _ 33 _)).trans (Fr.drewN b 1 _)
  subst hv
  subst hm
  refine ⟨⟨hT.fr f, hP, hs, K, n, hA, hst, hn, ?_⟩, f⟩
  have := ((hL.set35 (hdB r)).set37 ((K : Int) - st)).set33 ((K : Int) + (widB r : Nat))
  rw [Int.natCast_add]
  exact this.of rfl
theorem hdB_decG {r : List UInt8} (h : 1 ≤ widB r) : hdB r = ((decG r).1 : Int) := by
  have hr : r ≠ [] := by rintro rfl; exact absurd h (by decide)
  rw [hdB_cons hr]; unfold decG; rw [if_neg hr]
theorem hdB_none {r : List UInt8} (h : widB r = 0) : hdB r = -1 := by
  have hr : r = [] := by
    by_cases hr : r = []
    · exact hr
    · have := widB_pos hr; omega
  subst hr; rfl

set_option maxHeartbeats 4000000 in
set_option maxRecDepth 100000 in
/-- step, whatever the code point and the length are that stand there. -/
theorem stepR (b : Nat) (P : Nat → Option Value) (s : ByteArray) (r : List UInt8) (K n st : Nat) (cp ln uo kd fl : Int) (w : World) (hT : TB b w) (hP : P 10 = some (.string s)) (hs : s.size ≤ 1073741824)
    (hA : AtB s K r) (hst : st ≤ K) (hn : n ≤ K) (hL : LB b P n K cp st ln uo kd fl w) :
    Calls Tryz.prog 79 #[.pointer (some ⟨b, 0, none⟩)] w fun e w' => e = .returned (.tuple #[]) ∧ LR b P s r st uo kd fl w' ∧ Fr b w w' := by
  have hw := hA.le
  have D := Lib.hid (fun w hT => decodeAt hA w hT)
  obtain ⟨c32, c33, c35, c36, c37, -, -, -⟩ := hL.c
  have c10 : w.cell? ⟨b, 10, none⟩ = some (.string s) := (hL.p 10 (.inl (by omega))).trans hP
  have z32 := hL.fz 32
  have z33 := hL.fz 33
  have z35 := hL.fz 35
  have z37 := hL.fz 37
  have hlt := hL.lt
  have AA := Lib.hid hA
  have HT := Lib.hid hT
  have TD := Lib.hid (show Lib.Utf8Tabs 0 1 w.drew from hT.tabs)
  have HP := Lib.hid hP
  have LL := Lib.hid hL
  have hw2 := hA.wle
  have hK0 : (0 : Int) ≤ (K : Int) := by omega
  have hKs : (K : Int) ≤ (s.size : Int) := by omega
  clear hA hL hT hP
  obtain ⟨m, hm⟩ : ∃ m, widB r = m := ⟨_, rfl⟩
  have hd := (decG_range r).1
  obtain ⟨c, hc⟩ : ∃ c, (decG r).1 = c := ⟨_, rfl⟩
  rw [hm] at D hw2
  rw [hc] at D hd
  have HM := Lib.hid hm
  have HC := Lib.hid hc
  clear hm hc
  go_enter Tryz.func79, Tryz.ntmps79
  go_wp2_with fail
  go_region_held3 (fun w' => w'.cell? ⟨b, 10, none⟩ = some (.string s) ∧ w'.cell? ⟨b, 33, none⟩ = some (.int .i64 K)) (go_keep)
    ((go_at_call 64; refine (D.out _ TD.out).mono ?_; rintro e w1 ⟨rfl, hb1⟩; have k10 := (hb1.cell (p := ⟨b, 10, none⟩) hlt).trans c10; have k33 := (hb1.cell (p := ⟨b, 33, none⟩) hlt).trans c33))
  have HB := Lib.hid (below_undrew hb1)
  have k32 := (hb1.cell (p := ⟨b, 32, none⟩) hlt).trans c32
  have k35 := (hb1.cell (p := ⟨b, 35, none⟩) hlt).trans c35
  have k36 := (hb1.cell (p := ⟨b, 36, none⟩) hlt).trans c36
  have k37 := (hb1.cell (p := ⟨b, 37, none⟩) hlt).trans c37
  have y32 := (hb1.frozen (p := ⟨b, 32, none⟩) hlt).trans z32
  have y33 := (hb1.frozen (p := ⟨b, 33, none⟩) hlt).trans z33
  have y35 := (hb1.frozen (p := ⟨b, 35, none⟩) hlt).trans z35
  have y37 := (hb1.frozen (p := ⟨b, 37, none⟩) hlt).trans z37
  clear hb1 c32 c33 c35 c36 c37 z32 z33 z35 z37 c10 D
  by_cases hm0 : m = 0
  · have t0 : ((m : Int) == 0) = true := beq_iff_eq.2 (by omega)
    have M0 := Lib.hid hm0
    clear hm0
    go_wp2_with fail
    go_region
    all_goals go_wp2_with fail
    go_end0
    exact ⟨rfl, step_close HT.out HP.out hs AA.out hst (LL.out.of (HB.out.block b hlt)) (Fr.of HB.out) (by omega) (by rw [hdB_none (by have h1 := HM.out; have h2 := M0.out; omega)]) HM.out⟩
  · have t0 : ((m : Int) == 0) = false := beq_eq_false_iff_ne.2 (by omega)
    have M0 := Lib.hid hm0
    clear hm0
    by_cases hc10 : c = 10
    · have t1 : ((c : Int) == 10) = true := beq_iff_eq.2 (by omega)
      clear hc10
      go_wp2_with fail
      go_region
      all_goals go_wp2_with fail
      go_end0
      exact ⟨rfl, step_close HT.out HP.out hs AA.out hst ((LL.out.of (HB.out.block b hlt)).set32 _) ((Fr.of HB.out).trans (Fr.setCell _ 32 _)) (n := n + 1) (by have h1 := HM.out; have h2 := M0.out; omega) (by rw [hdB_decG (by have h1 := HM.out; have h2 := M0.out; omega), HC.out]) HM.out⟩
    · have t1 : ((c : Int) == 10) = false := beq_eq_false_iff_ne.2 (by omega)
      clear hc10
      go_wp2_with fail
      go_region
      all_goals go_wp2_with fail
      go_end0
      exact ⟨rfl, step_close HT.out HP.out hs AA.out hst (LL.out.of (HB.out.block b hlt)) (Fr.of HB.out) (by omega) (by rw [hdB_decG (by have h1 := HM.out; have h2 := M0.out; omega), HC.out]) HM.out⟩
theorem stepL (b : Nat) (P : Nat → Option Value) (s : ByteArray) (r : List UInt8) (st : Nat) (uo kd fl : Int) (w : World) (h : LR b P s r st uo kd fl w) :
    Calls Tryz.prog 79 #[.pointer (some ⟨b, 0, none⟩)] w fun e w' => e = .returned (.tuple #[]) ∧ LR b P s (tlB r) st uo kd fl w' ∧ Fr b w w' := by
  obtain ⟨hT, hP, hs, k, n, hA, hst, hn, hL⟩ := h
  exact stepR b P s (tlB r) (k + widB r) n st _ _ uo kd fl w hT hP hs hA.tail (by omega) hn hL
end Go.Proofs.YtmgkccnfhkcncaaGreatDoor

namespace Go.Proofs.YtmgkccnfhkcncaaGreatDoor
open Go.RowKit
attribute [local go_sem ↓] Go.wp_at_zero Go.wp_at_succ

/-- What stands in the lexer's cells, for a walk that reads them. -/
theorem LR.reads {b : Nat} {P : Nat → Option Value} {s : ByteArray} {r : List UInt8} {st : Nat} {uo kd fl : Int} {w : World} (h : LR b P s r st uo kd fl w) : ∃ k : Nat, AtB s k r ∧ st ≤ k ∧ k + widB r ≤ s.size ∧ s.size ≤ 1073741824 ∧
    w.cell? ⟨b, 10, none⟩ = some (.string s) ∧ w.cell? ⟨b, 33, none⟩ = some (.int .i64 ((k + widB r : Nat) : Int)) ∧ w.cell? ⟨b, 35, none⟩ = some (.int .i32 (hdB r)) ∧ w.cell? ⟨b, 36, none⟩ = some (.int .i32 (st : Int)) ∧ w.cell? ⟨b, 37, none⟩ = some (.int .i32 ((k : Int) - st)) := by
  obtain ⟨_, hP, hs, k, n, hA, hst, hn, hL⟩ := h
  obtain ⟨_, c33, c35, c36, c37, -, -, -⟩ := hL.c
  exact ⟨k, hA, hst, hA.wle, hs, (hL.p 10 (.inl (by omega))).trans hP, c33, c35, c36, c37⟩
theorem LR.tabs {b : Nat} {P : Nat → Option Value} {s : ByteArray} {r : List UInt8} {st : Nat} {uo kd fl : Int} {w : World} (h : LR b P s r st uo kd fl w) : TB b w := h.1

set_option maxHeartbeats 4000000 in
set_option maxRecDepth 100000 in
theorem vescI (b : Nat) (P : Nat → Option Value) (s : ByteArray) (r : List UInt8) (st : Nat) (uo kd fl : Int) (w : World) (h : LR b P s r st uo kd fl w) :
    Calls Tryz.prog 97 #[.pointer (some ⟨b, 0, none⟩)] w fun e w' => e = .returned (.bool (vescB r)) ∧ Below w.heap.size w w' := by
  have hlt := h.lt
  obtain ⟨k, hA, hst, hk, hs, c10, c33, c35, -, -⟩ := h.reads
  have hA2 := hA.tail
  have hT := h.tabs
  by_cases h1 : hdB r = 92
  · have hv : vescB r = !nlB ((decG (tlB r)).1 : Int) := by unfold vescB; rw [decide_eq_true h1]; rfl
    rw [hv]
    obtain ⟨K, hK⟩ : ∃ K, k + widB r = K := ⟨_, rfl⟩
    rw [hK] at hA2 hk c33
    rw [h1] at c35
    have D := Lib.hid (fun w hT => decodeAt hA2 w hT)
    have hd := (decG_range (tlB r)).1
    obtain ⟨c, hc⟩ : ∃ c, (decG (tlB r)).1 = c := ⟨_, rfl⟩
    obtain ⟨m, hm⟩ : ∃ m, widB (tlB r) = m := ⟨_, rfl⟩
    rw [hc, hm] at D
    rw [hc] at hd ⊢
    have N := Lib.hid (fun w => lexNewline (c : Int) w)
    obtain ⟨x, hx⟩ : ∃ x, nlB (c : Int) = x := ⟨_, rfl⟩
    rw [hx] at N ⊢
    have TD := Lib.hid (show Lib.Utf8Tabs 0 1 w.drew from hT.tabs)
    have hK0 : (0 : Int) ≤ (K : Int) := by omega
    have hKs : (K : Int) ≤ (s.size : Int) := by omega
    clear hK hA hA2 h1 hv hc hm hx hT h hst
    go_enter Tryz.func97, Tryz.ntmps97
    go_wp2_with fail
    go_region_held3 (fun w' => w'.cell? ⟨b, 10, none⟩ = some (.string s) ∧ w'.cell? ⟨b, 33, none⟩ = some (.int .i64 K)) (go_keep)
      ((go_at_call 64; refine (D.out _ TD.out).mono ?_; rintro e w1 ⟨rfl, hb1⟩; have k10 := (hb1.cell (p := ⟨b, 10, none⟩) hlt).trans c10; have k33 := (hb1.cell (p := ⟨b, 33, none⟩) hlt).trans c33))
    go_wp2_with (go_at_call 93; refine (N.out _).mono ?_; rintro e w' ⟨rfl, rfl⟩)
    go_ret
    exact ⟨rfl, below_undrew hb1⟩
  · have hv : vescB r = false := by unfold vescB; rw [decide_eq_false h1]; rfl
    rw [hv]
    obtain ⟨cp, hcp⟩ : ∃ cp, hdB r = cp := ⟨_, rfl⟩
    rw [hcp] at c35 h1
    have t1 : (cp == 92) = false := beq_eq_false_iff_ne.2 h1
    have t2 : (cp != 92) = true := bne_iff_ne.2 h1
    clear hA hA2 hv hcp hT h hst c10 c33 h1
    go_enter Tryz.func97, Tryz.ntmps97
    go_wp2_with fail
    go_ret
    exact ⟨rfl, Below.refl _ _⟩

set_option maxHeartbeats 8000000 in
set_option maxRecDepth 100000 in
theorem wouldI (b : Nat) (P : Nat → Option Value) (s : ByteArray) (r : List UInt8) (st : Nat) (uo kd fl : Int) (w : World) (h : LR b P s r st uo kd fl w) :
    Calls Tryz.prog 98 #[.pointer (some ⟨b, 0, none⟩)] w fun e w' => e = .returned (.bool (wouldB r)) ∧ Below w.heap.size w w' := by
  have hlt := h.lt
  obtain ⟨k, hA, hst, hk, hs, c10, c33, c35, -, -⟩ := h.reads
  have hA2 := hA.tail
  have hT := h.tabs
  by_cases h0 : nsB (hdB r) = true
  · have hv : wouldB r = true := by unfold wouldB; rw [if_pos h0]
    rw [hv]
    have N := Lib.hid (fun w => isNameStart (hdB r) w)
    rw [h0] at N
    obtain ⟨cp, hcp⟩ : ∃ cp, hdB r = cp := ⟨_, rfl⟩
    rw [hcp] at N c35
    clear h0 hv hcp hA hA2 hT h hst hk c10 c33
    go_enter Tryz.func98, Tryz.ntmps98
    go_wp2_with (go_at_call 47; refine (N.out _).mono ?_; rintro e w' ⟨rfl, rfl⟩)
    go_ret
    exact ⟨rfl, Below.refl _ _⟩
  · by_cases h1 : hdB r = 45
    · have hv : wouldB r = (if (decG (tlB r)).1 = 65533 ∧ (decG (tlB r)).2 ≤ 1 then false
          else nsB ((decG (tlB r)).1 : Int) || decide ((decG (tlB r)).1 = 45) || (decide ((decG (tlB r)).1 = 92) && !nlB ((decG ((tlB r).drop (decG (tlB r)).2)).1 : Int))) := by
        unfold wouldB
        rw [if_neg h0, if_pos h1]
      rw [hv]
      have N0 := Lib.hid (fun w => isNameStart 45 w)
      rw [show nsB 45 = false from rfl] at N0
      obtain ⟨K, hK⟩ : ∃ K, k + widB r = K := ⟨_, rfl⟩
      rw [hK] at hA2 hk c33
      rw [h1] at c35
      have D := Lib.hid (fun w hT => decodeAt hA2 w hT)
      have hd := (decG_range (tlB r)).1
      have hw2 : (decG (tlB r)).2 ≤ (tlB r).length := widB_le (tlB r)
      have hsz := hA2.size
      have hA3 := hA2.drop' _ hw2
      obtain ⟨r1, hr1⟩ : ∃ r1, tlB r = r1 := ⟨_, rfl⟩
      rw [show widB (tlB r) = (decG (tlB r)).2 from rfl] at D
      rw [hr1] at D hd hw2 hsz hA3 ⊢
      obtain ⟨c, hc⟩ : ∃ c, (decG r1).1 = c := ⟨_, rfl⟩
      obtain ⟨m, hm⟩ : ∃ m, (decG r1).2 = m := ⟨_, rfl⟩
      rw [hc, hm] at D
      rw [hc] at hd
      rw [hm] at hw2 hA3
      rw [hc, hm]
      have hKm : K + m ≤ s.size := by omega
      have D2 := Lib.hid (fun w hT => decodeAt hA3 w hT)
      have hd2 := (decG_range (r1.drop m)).1
      rw [show widB (r1.drop m) = (decG (r1.drop m)).2 from rfl] at D2
      obtain ⟨c2, hc2⟩ : ∃ c2, (decG (r1.drop m)).1 = c2 := ⟨_, rfl⟩
      obtain ⟨m2, hm2⟩ : ∃ m2, (decG (r1.drop m)).2 = m2 := ⟨_, rfl⟩
      rw [hc2, hm2] at D2
      rw [hc2] at hd2 ⊢
      have NS := Lib.hid (fun w => isNameStart (c : Int) w)
      have NL := Lib.hid (fun w => lexNewline (c2 : Int) w)
      obtain ⟨x, hx⟩ : ∃ x, nsB (c : Int) = x := ⟨_, rfl⟩
      obtain ⟨y, hy⟩ : ∃ y, nlB (c2 : Int) = y := ⟨_, rfl⟩
      rw [hx] at NS ⊢
      rw [hy] at NL ⊢
      obtain ⟨z, hz⟩ : ∃ z, (if c = 65533 ∧ m ≤ 1 then false else x || decide (c = 45) || (decide (c = 92) && !y)) = z := ⟨_, rfl⟩
      rw [hz]
      have HZ := Lib.hid hz
      have HX := Lib.hid hx
      have HT := Lib.hid hT
      have TD := Lib.hid (show Lib.Utf8Tabs 0 1 w.drew from hT.tabs)
      have hK0 : (0 : Int) ≤ (K : Int) := by omega
      have hKs : (K : Int) ≤ (s.size : Int) := by omega
      have hKm0 : (0 : Int) ≤ (K : Int) + (m : Int) := by omega
      have hKms : (K : Int) + (m : Int) ≤ (s.size : Int) := by omega
      clear hK hA hA2 hA3 h1 h0 hv hc hm hc2 hm2 hx hy hz hT h hst hsz hw2 hr1 hK0
      go_enter Tryz.func98, Tryz.ntmps98
      go_wp2_with (go_at_call 47; refine (N0.out _).mono ?_; rintro e w' ⟨rfl, rfl⟩)
      go_region_held3 (fun w' => w'.cell? ⟨b, 10, none⟩ = some (.string s) ∧ w'.cell? ⟨b, 33, none⟩ = some (.int .i64 K)) (go_keep)
        ((go_at_call 64; refine (D.out _ TD.out).mono ?_; rintro e w1 ⟨rfl, hb1⟩; have k10 := (hb1.cell (p := ⟨b, 10, none⟩) hlt).trans c10; have k33 := (hb1.cell (p := ⟨b, 33, none⟩) hlt).trans c33; have k35 := (hb1.cell (p := ⟨b, 35, none⟩) hlt).trans c35))
      have HB := Lib.hid (below_undrew hb1)
      have T1 := Lib.hid (show Lib.Utf8Tabs 0 1 w1.drew from (HT.out.fr (Fr.of HB.out)).tabs)
      have hlt1 : b < w1.heap.size := by have := HB.out.size; omega
      clear hb1 c10 c33 c35 hlt
      by_cases g1 : c = 65533
      · subst g1
        by_cases g2 : m ≤ 1
        · go_wp2_with fail
          go_ret
          exact ⟨ret_bool (by rw [← HZ.out]; simp [g2]), HB.out⟩
        · have g3 : ¬ (m : Int) ≤ 1 := by omega
          cases x with
          | true =>
            go_wp2_with (go_at_call 47; refine (NS.out _).mono ?_; rintro e w' ⟨rfl, rfl⟩)
            go_ret
            exact ⟨ret_bool (by rw [← HZ.out, if_neg (fun hh => g2 hh.2)]; rfl), HB.out⟩
          | false => exact absurd HX.out (by decide)
      · have t1 : ((c : Int) == 65533) = false := beq_eq_false_iff_ne.2 (by omega)
        have G1 := Lib.hid g1
        clear g1
        cases x
        · by_cases g4 : c = 45
          · subst g4
            go_wp2_with (go_at_call 47; refine (NS.out _).mono ?_; rintro e w' ⟨rfl, rfl⟩)
            go_ret
            exact ⟨ret_bool (by rw [← HZ.out, if_neg (fun hh => G1.out hh.1)]; rfl), HB.out⟩
          · have t2 : ((c : Int) == 45) = false := beq_eq_false_iff_ne.2 (by omega)
            have G4 := Lib.hid g4
            clear g4
            by_cases g5 : c = 92
            · subst g5
              go_wp2_with (go_at_call 47; refine (NS.out _).mono ?_; rintro e w' ⟨rfl, rfl⟩)
              have hwr : IntKind.i64.wrap ((K : Int) + (m : Int)) = (K : Int) + (m : Int) := IntWalk.i64_in _ (by omega)
              go_region_held3 (fun w' => w'.cell? ⟨b, 10, none⟩ = some (.string s) ∧ w'.cell? ⟨b, 33, none⟩ = some (.int .i64 K)) (go_keep)
                ((go_at_call 64; refine (D2.out _ T1.out).mono ?_; rintro e w2 ⟨rfl, hb2⟩; have j10 := (hb2.cell (p := ⟨b, 10, none⟩) hlt1).trans k10; have j33 := (hb2.cell (p := ⟨b, 33, none⟩) hlt1).trans k33))
              clear hwr
              go_wp2_with (go_at_call 93; refine (NL.out _).mono ?_; rintro e w' ⟨rfl, rfl⟩)
              go_ret
              exact ⟨ret_bool (by rw [← HZ.out, if_neg (fun hh => G1.out hh.1)]; rfl), HB.out.trans ((below_undrew hb2).mono HB.out.size)⟩
            · have t3 : ((c : Int) == 92) = false := beq_eq_false_iff_ne.2 (by omega)
              have G5 := Lib.hid g5
              clear g5
              go_wp2_with (go_at_call 47; refine (NS.out _).mono ?_; rintro e w' ⟨rfl, rfl⟩)
              go_ret
              exact ⟨ret_bool (by rw [← HZ.out, if_neg (fun hh => G1.out hh.1), decide_eq_false G4.out, decide_eq_false G5.out]; rfl), HB.out⟩
        · go_wp2_with (go_at_call 47; refine (NS.out _).mono ?_; rintro e w' ⟨rfl, rfl⟩)
          go_ret
          exact ⟨ret_bool (by rw [← HZ.out, if_neg (fun hh => G1.out hh.1)]; rfl), HB.out⟩
    · have hv : wouldB r = vescB r := by unfold wouldB; rw [if_neg h0, if_neg h1]
      rw [hv]
      have V := Lib.hid (vescI b P s r st uo kd fl w h)
      have N := Lib.hid (fun w => isNameStart (hdB r) w)
      have h0' : nsB (hdB r) = false := by simpa using h0
      rw [h0'] at N
      obtain ⟨cp, hcp⟩ : ∃ cp, hdB r = cp := ⟨_, rfl⟩
      rw [hcp] at N c35 h1
      have t1 : (cp == 45) = false := beq_eq_false_iff_ne.2 h1
      obtain ⟨v, hvv⟩ : ∃ v, vescB r = v := ⟨_, rfl⟩
      rw [hvv] at V ⊢
      clear h0 h0' hv hcp hvv hA hA2 hT h hst hk c10 c33 h1
      go_enter Tryz.func98, Tryz.ntmps98
      go_wp2_with (go_at_call 47; refine (N.out _).mono ?_; rintro e w' ⟨rfl, rfl⟩)
      refine (V.out).mono ?_
      rintro e w1 ⟨rfl, hb⟩
      go_wp2
      go_ret
      exact ⟨rfl, hb⟩
end Go.Proofs.YtmgkccnfhkcncaaGreatDoor
