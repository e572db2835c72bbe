/-
  css_lexer's lexer: step.
-/
import Derived.Test.YtmgkccnfhkcncaaGreatDoorLexI
import Derived.Deep.RegionHeld3
import Derived.RegionTactic
import Derived.Deep.DrawnRows
namespace Go.Proofs.YtmgkccnfhkcncaaGreatDoor
open Go.RowKit
attribute [local go_sem ↓] Go.wp_at_zero Go.wp_at_succ

theorem below_undrew {w w1 : World} (h : Below w.drew.heap.size w.drew w1) : Below w.heap.size w w1 := ⟨h.os, h.tape, h.output, h.size, h.block⟩
theorem decodeAt {s : ByteArray} {k : Nat} {r : List UInt8} (h : AtB s k r) (w : World) (hT : Lib.Utf8Tabs 0 1 w) :
    Calls Tryz.prog 64 #[.string (s.extract k s.size)] w fun e w' => e = .returned (.tuple #[.int .i32 ((decG r).1 : Nat), .int .i64 (widB r : Nat)]) ∧ Below w.heap.size w w' := by
  have hr := decodeRune (s.extract k s.size) w hT
  rw [h.ext] at hr
  exact hr
theorem decG_range (r : List UInt8) : (decG r).1 ≤ 1114111 ∧ (decG r).2 ≤ 4 := by
  unfold decG
  split
  · exact ⟨by decide, by decide⟩
  · exact ⟨Lib.decodeL_rune r, by rw [Lib.decodeL_N]; exact decodeN_w4 _ _ _ _ _⟩

theorem step_close {b : Nat} {P : Nat → Option Value} {s : ByteArray} {r : List UInt8} {K n st m : Nat} {cp ln uo kd fl v : Int} {w w2 : World} (hT : TB b w) (hP : P 10 = some (.string s)) (hs : s.size ≤ 1073741824) (hA : AtB s K r) (hst : st ≤ K)
    (hL : LB b P n K cp st ln uo kd fl w2) (f2 : Fr b w w2) (hn : n ≤ K + widB r) (hv : v = hdB r) (hm : widB r = m) :
    LR b P s r st uo kd fl ((((w2.setCell ⟨b, 35, none⟩ (.int .i32 v)).setCell ⟨b, 37, none⟩ (.int .i32 ((K : Int) - st))).setCell ⟨b, 33, none⟩ (.int .i64 ((K : Int) + m))).drew) ∧
    Fr b w ((((w2.setCell ⟨b, 35, none⟩ (.int .i32 v)).setCell ⟨b, 37, none⟩ (.int .i32 ((K : Int) - st))).setCell ⟨b, 33, none⟩ (.int .i64 ((K : Int) + m))).drew) := by
  have f : Fr b w ((((w2.setCell ⟨b, 35, none⟩ (.int .i32 v)).setCell ⟨b, 37, none⟩ (.int .i32 ((K : Int) - st))).setCell ⟨b, 33, none⟩ (.int .i64 ((K : Int) + m))).drew) :=
    (((f2.trans (Fr.setCell _ 35 _)).trans (Fr.setCell _ 37 _)).trans (Fr.setCell _ 33 _)).trans (Fr.drewN b 1 _)
  subst hv
  subst hm
  refine ⟨⟨hT.fr f, hP, hs, K, n, hA, hst, hn, ?_⟩, f⟩
  have := ((hL.set35 (hdB r)).set37 ((K : Int) - st)).set33 ((K : Int) + (widB r : Nat))
  rw [Int.natCast_add]
  exact this.of rfl
theorem hdB_decG {r : List UInt8} (h : 1 ≤ widB r) : hdB r = ((decG r).1 : Int) := by
  have hr : r ≠ [] := by rintro rfl; exact absurd h (by decide)
  rw [hdB_cons hr]; unfold decG; rw [if_neg hr]
theorem hdB_none {r : List UInt8} (h : widB r = 0) : hdB r = -1 := by
  have hr : r = [] := by
    by_cases hr : r = []
    · exact hr
    · have := widB_pos hr; omega
  subst hr; rfl

set_option maxHeartbeats 4000000 in
set_option maxRecDepth 100000 in
/-- step, whatever the code point and the length are that stand there. -/
theorem stepR (b : Nat) (P : Nat → Option Value) (s : ByteArray) (r : List UInt8) (K n st : Nat) (cp ln uo kd fl : Int) (w : World) (hT : TB b w) (hP : P 10 = some (.string s)) (hs : s.size ≤ 1073741824)
    (hA : AtB s K r) (hst : st ≤ K) (hn : n ≤ K) (hL : LB b P n K cp st ln uo kd fl w) :
    Calls Tryz.prog 79 #[.pointer (some ⟨b, 0, none⟩)] w fun e w' => e = .returned (.tuple #[]) ∧ LR b P s r st uo kd fl w' ∧ Fr b w w' := by
  have hw := hA.le
  have D := Lib.hid (fun w hT => decodeAt hA w hT)
  obtain ⟨c32, c33, c35, c36, c37, -, -, -⟩ := hL.c
  have c10 : w.cell? ⟨b, 10, none⟩ = some (.string s) := (hL.p 10 (.inl (by omega))).trans hP
  have z32 := hL.fz 32
  have z33 := hL.fz 33
  have z35 := hL.fz 35
  have z37 := hL.fz 37
  have hlt := hL.lt
  have AA := Lib.hid hA
  have HT := Lib.hid hT
  have TD := Lib.hid (show Lib.Utf8Tabs 0 1 w.drew from hT.tabs)
  have HP := Lib.hid hP
  have LL := Lib.hid hL
  have hw2 := hA.wle
  have hK0 : (0 : Int) ≤ (K : Int) := by omega
  have hKs : (K : Int) ≤ (s.size : Int) := by omega
  clear hA hL hT hP
  obtain ⟨m, hm⟩ : ∃ m, widB r = m := ⟨_, rfl⟩
  have hd := (decG_range r).1
  obtain ⟨c, hc⟩ : ∃ c, (decG r).1 = c := ⟨_, rfl⟩
  rw [hm] at D hw2
  rw [hc] at D hd
  have HM := Lib.hid hm
  have HC := Lib.hid hc
  clear hm hc
  go_enter Tryz.func79, Tryz.ntmps79
  go_wp2_with fail
  go_region_held3 (fun w' => w'.cell? ⟨b, 10, none⟩ = some (.string s) ∧ w'.cell? ⟨b, 33, none⟩ = some (.int .i64 K)) (go_keep)
    ((go_at_call 64; refine (D.out _ TD.out).mono ?_; rintro e w1 ⟨rfl, hb1⟩; have k10 := (hb1.cell (p := ⟨b, 10, none⟩) hlt).trans c10; have k33 := (hb1.cell (p := ⟨b, 33, none⟩) hlt).trans c33))
  have HB := Lib.hid (below_undrew hb1)
  have k32 := (hb1.cell (p := ⟨b, 32, none⟩) hlt).trans c32
  have k35 := (hb1.cell (p := ⟨b, 35, none⟩) hlt).trans c35
  have k36 := (hb1.cell (p := ⟨b, 36, none⟩) hlt).trans c36
  have k37 := (hb1.cell (p := ⟨b, 37, none⟩) hlt).trans c37
  have y32 := (hb1.frozen (p := ⟨b, 32, none⟩) hlt).trans z32
  have y33 := (hb1.frozen (p := ⟨b, 33, none⟩) hlt).trans z33
  have y35 := (hb1.frozen (p := ⟨b, 35, none⟩) hlt).trans z35
  have y37 := (hb1.frozen (p := ⟨b, 37, none⟩) hlt).trans z37
  clear hb1 c32 c33 c35 c36 c37 z32 z33 z35 z37 c10 D
  by_cases hm0 : m = 0
  · have t0 : ((m : Int) == 0) = true := beq_iff_eq.2 (by omega)
    have M0 := Lib.hid hm0
    clear hm0
    go_wp2_with fail
    go_region
    all_goals go_wp2_with fail
    go_end0
    exact ⟨rfl, step_close HT.out HP.out hs AA.out hst (LL.out.of (HB.out.block b hlt)) (Fr.of HB.out) (by omega) (by rw [hdB_none (by have h1 := HM.out; have h2 := M0.out; omega)]) HM.out⟩
  · have t0 : ((m : Int) == 0) = false := beq_eq_false_iff_ne.2 (by omega)
    have M0 := Lib.hid hm0
    clear hm0
    by_cases hc10 : c = 10
    · have t1 : ((c : Int) == 10) = true := beq_iff_eq.2 (by omega)
      clear hc10
      go_wp2_with fail
      go_region
      all_goals go_wp2_with fail
      go_end0
      exact ⟨rfl, step_close HT.out HP.out hs AA.out hst ((LL.out.of (HB.out.block b hlt)).set32 _) ((Fr.of HB.out).trans (Fr.setCell _ 32 _)) (n := n + 1) (by have h1 := HM.out; have h2 := M0.out; omega) (by rw [hdB_decG (by have h1 := HM.out; have h2 := M0.out; omega), HC.out]) HM.out⟩
    · have t1 : ((c : Int) == 10) = false := beq_eq_false_iff_ne.2 (by omega)
      clear hc10
      go_wp2_with fail
      go_region
      all_goals go_wp2_with fail
      go_end0
      exact ⟨rfl, step_close HT.out HP.out hs AA.out hst (LL.out.of (HB.out.block b hlt)) (Fr.of HB.out) (by omega) (by rw [hdB_decG (by have h1 := HM.out; have h2 := M0.out; omega), HC.out]) HM.out⟩
theorem stepL (b : Nat) (P : Nat → Option Value) (s : ByteArray) (r : List UInt8) (st : Nat) (uo kd fl : Int) (w : World) (h : LR b P s r st uo kd fl w) :
    Calls Tryz.prog 79 #[.pointer (some ⟨b, 0, none⟩)] w fun e w' => e = .returned (.tuple #[]) ∧ LR b P s (tlB r) st uo kd fl w' ∧ Fr b w w' := by
  obtain ⟨hT, hP, hs, k, n, hA, hst, hn, hL⟩ := h
  exact stepR b P s (tlB r) (k + widB r) n st _ _ uo kd fl w hT hP hs hA.tail (by omega) hn hL
end Go.Proofs.YtmgkccnfhkcncaaGreatDoor
