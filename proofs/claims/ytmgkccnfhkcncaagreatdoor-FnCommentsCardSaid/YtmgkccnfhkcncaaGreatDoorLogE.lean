/-
  The log: AddError, AddErrorWithNotes, AddID, AddIDWithNotes.
-/
import Derived.Test.YtmgkccnfhkcncaaGreatDoorLgD
import Derived.Deep.RegionHeld3
namespace Go.Proofs.YtmgkccnfhkcncaaGreatDoor
open Go.RowKit
attribute [local go_sem ↓] Go.wp_at_zero Go.wp_at_succ

/-- A log's cells. -/
def logV (gk gm gh gs : Nat) (g2 g3 g4 : Fn) (c2 c3 c4 : Array Value) : Array Value :=
  #[.func (.func 71) #[] #[.pointer (some ⟨gk, 0, none⟩), .pointer (some ⟨gm, 0, none⟩), .pointer (some ⟨gh, 0, none⟩), .pointer (some ⟨gs, 0, none⟩)], .func g2 #[] c2, .func g3 #[] c3, .func g4 #[] c4, .int .i8 3, .map none]
theorem LgS.fr {gk gm gh gs b nm : Nat} {mv : Value} {w w' : World} (h : LgS gk gm gh gs (b + 1) nm mv w) (hb : gh < b) (f : Fr b w w') : LgS gk gm gh gs (b + 1) nm mv w' := by
  obtain ⟨a1, a2, a3, a4, a5⟩ := h.apart
  have sm : ∀ k, k < w.heap.size → k ≠ b → w'.heap[k]? = w.heap[k]? := f.block
  have hsz := f.size
  refine ⟨(sm gk (by omega) (by omega)).trans h.kind, (sm gm (by omega) (by omega)).trans h.lock, ?_, (sm gs (by omega) (by omega)).trans h.msgs, ?_, ⟨a1, a2, a3, a4, by omega⟩⟩
  · obtain ⟨x, hx⟩ := h.errs
    exact ⟨x, (sm gh (by omega) (by omega)).trans hx⟩
  · obtain ⟨xs, hx⟩ := h.row
    exact ⟨xs, row_heap hx fun k hk hk2 => sm k hk2 (by omega)⟩
theorem cell_fr {b : Nat} {w w' : World} (f : Fr b w w') {k : Nat} (h : k < w.heap.size) (hb : k ≠ b) (i : Nat) : w'.cell? ⟨k, i, none⟩ = w.cell? ⟨k, i, none⟩ := World.cell?_of_block (w := w) (f.block k h hb)
theorem cell_fx {S : Nat → Prop} {w w' : World} (f : Fx S w w') {k : Nat} (h : k < w.heap.size) (hb : ¬ S k) (i : Nat) : w'.cell? ⟨k, i, none⟩ = w.cell? ⟨k, i, none⟩ := World.cell?_of_block (w := w) (f.block k h hb)
theorem LgS.new {gk gm gh gs base nm : Nat} {mv : Value} {w : World} (h : LgS gk gm gh gs base nm mv w) : ∀ k, w.heap.size ≤ k → ¬ LgOwn gm gh gs mv k := by
  obtain ⟨a1, a2, a3, a4, a5⟩ := h.apart
  rintro k hk (h1 | h1 | h1 | h1)
  · omega
  · omega
  · omega
  · obtain ⟨xs, hx⟩ := h.row
    have := (own_base hx h1).2
    omega
theorem TkAt.pre {b : Nat} {P : Nat → Option Value} {s : ByteArray} {off : Nat} {n cur cp st ln uo kd fl : Int} {w w1 w2 : World} (h : TkAt b P s off n cur cp st ln uo kd fl w1 w2) (f : Fr b w w1) : TkAt b P s off n cur cp st ln uo kd fl w w2 := by
  obtain ⟨P', h1, h2, h3, h4⟩ := h
  exact ⟨P', h1, h2, h3, f.trans h4⟩
/-- What the log's callers see. -/
def LgP (b gk gm gh gs nm : Nat) (mv : Value) (P : Nat → Option Value) (s : ByteArray) (off : Nat) (n cur cp st ln uo kd fl : Int) (w : World) (e : Ending) (w' : World) : Prop :=
  e = .returned (.tuple #[]) ∧ ∃ P' mv', SameT P P' ∧ TrkP P' s off ∧ LB b P' n cur cp st ln uo kd fl w' ∧ LgS gk gm gh gs (b + 1) (nm + 1) mv' w' ∧ Fx (fun k => k = b ∨ LgOwn gm gh gs mv k) w w' ∧ ∀ k, mv'.ownBlock = some k → mv.ownBlock = some k ∨ w.heap.size ≤ k
theorem lg_close {b gk gm gh gs nm off : Nat} {mv : Value} {P : Nat → Option Value} {s : ByteArray} {n cur cp st ln uo kd fl : Int} {w w2 w3 : World} (hT : TkAt b P s off n cur cp st ln uo kd fl w w2) (hL : LgS gk gm gh gs (b + 1) nm mv w2) (hb : gh < b) (hA : AmP gk gm gh gs (b + 1) nm mv w2 (.returned (.tuple #[])) w3) :
    LgP b gk gm gh gs nm mv P s off n cur cp st ln uo kd fl w (.returned (.tuple #[])) w3 := by
  obtain ⟨P', h1, h2, h3, h4⟩ := hT
  obtain ⟨-, mv', k1, k2, k3⟩ := hA
  obtain ⟨a1, a2, a3, a4, a5⟩ := hL.apart
  refine ⟨rfl, P', mv', h1, h2, h3.of (k2.block b h3.lt ?_), k1, ?_, fun k hk => ?_⟩
  · rintro (h | h | h | h)
    · omega
    · omega
    · omega
    · obtain ⟨xs, hx⟩ := hL.row
      have := (own_base hx h).1
      omega
  · exact (h4.fx (S := fun k => k = b ∨ LgOwn gm gh gs mv k) (.inl rfl)).trans k2 fun k hk => .inl (.inr hk)
  · rcases k3 k hk with h | h
    · exact .inl h
    · exact .inr (by have := h4.size; omega)

set_option maxHeartbeats 8000000 in
set_option maxRecDepth 1000000 in
theorem addErrorI (b gk gm gh gs nm : Nat) (mv : Value) (g2 g3 g4 : Fn) (c2 c3 c4 : Array Value) (P : Nat → Option Value) (s : ByteArray) (k off : Nat) (n cur cp st ln uo kd fl len : Int) (tx : ByteArray) (w : World) (hTB : TB b w) (hP : TrkP P s k) (hL : LB b P n cur cp st ln uo kd fl w) (hG : LgS gk gm gh gs (b + 1) nm mv w) (hgb : gh < b) (hnm : nm ≤ 1073741824) (hs : s.size ≤ 1073741824) (hko : k ≤ off) (hB : Bd s off) (hl0 : -2147483648 ≤ len) (hl1 : len ≤ 2147483647) :
    Calls Tryz.prog 103 #[.agg (logV gk gm gh gs g2 g3 g4 c2 c3 c4), .pointer (some ⟨b, 22, none⟩), .agg #[.int .i32 (off : Int), .int .i32 len], .string tx] w fun e w' => LgP b gk gm gh gs nm mv P s off n cur cp st ln uo kd fl w e w' := by
  have M := Lib.hid (fun w hTB hL => msgdI b P s k off n cur cp st ln uo kd fl len tx w hTB hP hL hs hko hB hl0 hl1)
  have A := Lib.hid (fun p w h => addMsgI gk gm gh gs (b + 1) nm mv none 0 0 p tx 0 0 w h hnm)
  have HT := Lib.hid hTB
  have HL := Lib.hid hL
  have HG := Lib.hid hG
  have hlt := hL.lt
  clear hTB hP hL hG hB
  unfold logV
  go_enter Tryz.func103, Tryz.ntmps103
  go_upto_region 1 with fail
  obtain ⟨L, hL0⟩ : ∃ L, w.heap.size = L := ⟨_, rfl⟩
  obtain ⟨R, hR0⟩ : ∃ R, w.heap.size + 1 = R := ⟨_, rfl⟩
  obtain ⟨w1, hw1⟩ : ∃ x, (w.alloc (.cells #[.func (.func 71) #[] #[.pointer (some ⟨gk, 0, none⟩), .pointer (some ⟨gm, 0, none⟩), .pointer (some ⟨gh, 0, none⟩), .pointer (some ⟨gs, 0, none⟩)], .func g2 #[] c2, .func g3 #[] c3, .func g4 #[] c4, .int .i8 3, .map none] 83)).alloc (.cells #[.int .i32 (off : Int), .int .i32 len] 55) = x := ⟨_, rfl⟩
  have B1 := Lib.hid (show Below w.heap.size w w1 by rw [← hw1]; exact ((Below.refl _ _).alloc (Nat.le_refl _) _).alloc (by simp) _)
  have KL := Lib.hid (show w1.heap[L]? = some (.cells #[.func (.func 71) #[] #[.pointer (some ⟨gk, 0, none⟩), .pointer (some ⟨gm, 0, none⟩), .pointer (some ⟨gh, 0, none⟩), .pointer (some ⟨gs, 0, none⟩)], .func g2 #[] c2, .func g3 #[] c3, .func g4 #[] c4, .int .i8 3, .map none] 83 (0, 0)) by
    rw [← hw1, ← hL0]; exact (Below.heap_alloc _ _ _ (by simp)).trans (heap_alloc_new w _))
  have KR := Lib.hid (show w1.heap[R]? = some (.cells #[.int .i32 (off : Int), .int .i32 len] 55 (0, 0)) by
    have h := heap_alloc_new (w.alloc (.cells #[.func (.func 71) #[] #[.pointer (some ⟨gk, 0, none⟩), .pointer (some ⟨gm, 0, none⟩), .pointer (some ⟨gh, 0, none⟩), .pointer (some ⟨gs, 0, none⟩)], .func g2 #[] c2, .func g3 #[] c3, .func g4 #[] c4, .int .i8 3, .map none] 83)) (.cells #[.int .i32 (off : Int), .int .i32 len] 55)
    rw [hw1] at h
    rw [← h, ← hR0]; simp)
  have HNL := Lib.hid HG.out.new
  have hLb : b < L := by omega
  have hRb : b < R := by omega
  rw [hw1, hR0, hL0]
  rw [hL0] at HNL
  clear hw1
  have HT1 := Lib.hid (HT.out.fr (Fr.of B1.out))
  have HL1 := Lib.hid (HL.out.of (B1.out.block b hlt))
  have HG1 := Lib.hid (HG.out.fr hgb (Fr.of B1.out))
  have l0 : w1.cell? ⟨L, 0, none⟩ = some (.func (.func 71) #[] #[.pointer (some ⟨gk, 0, none⟩), .pointer (some ⟨gm, 0, none⟩), .pointer (some ⟨gh, 0, none⟩), .pointer (some ⟨gs, 0, none⟩)]) := by rw [Lib.cell_of_heap KL.out]; rfl
  have r0 : w1.cell? ⟨R, 0, none⟩ = some (.int .i32 (off : Int)) := by rw [Lib.cell_of_heap KR.out]; rfl
  have r1 : w1.cell? ⟨R, 1, none⟩ = some (.int .i32 len) := by rw [Lib.cell_of_heap KR.out]; rfl
  have zL := (Array.getElem?_eq_some_iff.1 KL.out).1
  have zR := (Array.getElem?_eq_some_iff.1 KR.out).1
  go_region_held3 (fun w' => w'.cell? ⟨L, 0, none⟩ = some (.func (.func 71) #[] #[.pointer (some ⟨gk, 0, none⟩), .pointer (some ⟨gm, 0, none⟩), .pointer (some ⟨gh, 0, none⟩), .pointer (some ⟨gs, 0, none⟩)]) ∧ w'.cell? ⟨R, 0, none⟩ = some (.int .i32 (off : Int)) ∧ w'.cell? ⟨R, 1, none⟩ = some (.int .i32 len)) (go_keep)
    (first
      | (go_at_call 120; refine (M.out _ (HT1.out.fr (Fr.drewN b 1 _)) (HL1.out.of rfl)).mono ?_; rintro e w2 ⟨⟨p, rfl⟩, hk⟩; have HK := Lib.hid hk; have HF2 := Lib.hid (show Fr b w1 w2 from (by obtain ⟨P', q1, q2, q3, q4⟩ := hk; exact (Fr.drewN b 1 w1).trans q4)); have j0 := (cell_fr HF2.out zL (by omega) 0).trans l0; have j1 := (cell_fr HF2.out zR (by omega) 0).trans r0; have j2 := (cell_fr HF2.out zR (by omega) 1).trans r1; clear hk)
      | (go_at_call 71; refine (A.out _ _ (HG1.out.fr hgb HF2.out)).mono ?_; rintro e w3 ha; obtain rfl := ha.1; have HA := Lib.hid ha; have FX := Lib.hid (show Fx (LgOwn gm gh gs mv) w2 w3 from (by obtain ⟨-, mv', q1, q2, q3⟩ := ha; exact q2)); have hs2 := HF2.out.size; have i0 := (cell_fx FX.out (Nat.lt_of_lt_of_le zL hs2) (HNL.out _ (by omega)) 0).trans j0; have i1 := (cell_fx FX.out (Nat.lt_of_lt_of_le zR hs2) (HNL.out _ (by omega)) 0).trans j1; have i2 := (cell_fx FX.out (Nat.lt_of_lt_of_le zR hs2) (HNL.out _ (by omega)) 1).trans j2; clear ha))
  go_wp2_with fail
  go_end0
  exact lg_close (HK.out.pre ((Fr.of B1.out).trans (Fr.drewN b 1 _))) (HG1.out.fr hgb HF2.out) hgb HA.out
set_option maxHeartbeats 4000000 in
set_option maxRecDepth 1000000 in
theorem allowI (id mk : Int) (w : World) : Calls Tryz.prog 121 #[.map none, .int .u8 id, .int .u8 mk] w fun e w' => e = .returned (.tuple #[.int .u8 mk, .bool true]) ∧ w = w' := by
  have hlk : ∀ w : World, (Instr.lookup 81 (.map none) (.int .u8 id) true).run Tryz.prog w = .ok (.tuple #[.int .i8 0, .bool false]) w := by
    intro w
    have hck : (Instr.checkKey true 10000 5 (.int .u8 id)).run Tryz.prog w = .ok () w := by
      rw [show (10000 : Nat) = 9999 + 1 from rfl, Instr.checkKey]
      simp [go_sem, Result.andThen]
    have hfk : (Instr.findKey 5 (.int .u8 id) []).run Tryz.prog w = .ok none w := by
      simp [Instr.findKey, go_sem, Instr.findNow]
    simp [Instr.lookup, go_sem, Result.andThen, hck, hfk, Tryz.zeroValue80]
  go_enter Tryz.func121, Tryz.ntmps121
  go_wp2_with fail
  refine bodyPost_ret (results_tmp2 rfl _ _ _) rfl ?_
  exact ⟨rfl, rfl⟩
set_option maxHeartbeats 8000000 in
set_option maxRecDepth 1000000 in
theorem addErrorNI (b gk gm gh gs nm : Nat) (mv : Value) (g2 g3 g4 : Fn) (c2 c3 c4 : Array Value) (P : Nat → Option Value) (s : ByteArray) (k off : Nat) (n cur cp st ln uo kd fl len : Int) (tx : ByteArray) (na : Option Addr) (nl nc : Nat) (w : World) (hTB : TB b w) (hP : TrkP P s k) (hL : LB b P n cur cp st ln uo kd fl w) (hG : LgS gk gm gh gs (b + 1) nm mv w) (hgb : gh < b) (hnm : nm ≤ 1073741824) (hs : s.size ≤ 1073741824) (hko : k ≤ off) (hB : Bd s off) (hl0 : -2147483648 ≤ len) (hl1 : len ≤ 2147483647) :
    Calls Tryz.prog 119 #[.agg (logV gk gm gh gs g2 g3 g4 c2 c3 c4), .pointer (some ⟨b, 22, none⟩), .agg #[.int .i32 (off : Int), .int .i32 len], .string tx, .slice na nl nc] w fun e w' => LgP b gk gm gh gs nm mv P s off n cur cp st ln uo kd fl w e w' := by
  have M := Lib.hid (fun w hTB hL => msgdI b P s k off n cur cp st ln uo kd fl len tx w hTB hP hL hs hko hB hl0 hl1)
  have A := Lib.hid (fun p w h => addMsgI gk gm gh gs (b + 1) nm mv na nl nc p tx 0 0 w h hnm)
  have HT := Lib.hid hTB
  have HL := Lib.hid hL
  have HG := Lib.hid hG
  have hlt := hL.lt
  clear hTB hP hL hG hB
  unfold logV
  go_enter Tryz.func119, Tryz.ntmps119
  go_upto_region 1 with fail
  obtain ⟨L, hL0⟩ : ∃ L, w.heap.size = L := ⟨_, rfl⟩
  obtain ⟨R, hR0⟩ : ∃ R, w.heap.size + 1 = R := ⟨_, rfl⟩
  obtain ⟨w1, hw1⟩ : ∃ x, (w.alloc (.cells #[.func (.func 71) #[] #[.pointer (some ⟨gk, 0, none⟩), .pointer (some ⟨gm, 0, none⟩), .pointer (some ⟨gh, 0, none⟩), .pointer (some ⟨gs, 0, none⟩)], .func g2 #[] c2, .func g3 #[] c3, .func g4 #[] c4, .int .i8 3, .map none] 83)).alloc (.cells #[.int .i32 (off : Int), .int .i32 len] 55) = x := ⟨_, rfl⟩
  have B1 := Lib.hid (show Below w.heap.size w w1 by rw [← hw1]; exact ((Below.refl _ _).alloc (Nat.le_refl _) _).alloc (by simp) _)
  have KL := Lib.hid (show w1.heap[L]? = some (.cells #[.func (.func 71) #[] #[.pointer (some ⟨gk, 0, none⟩), .pointer (some ⟨gm, 0, none⟩), .pointer (some ⟨gh, 0, none⟩), .pointer (some ⟨gs, 0, none⟩)], .func g2 #[] c2, .func g3 #[] c3, .func g4 #[] c4, .int .i8 3, .map none] 83 (0, 0)) by
    rw [← hw1, ← hL0]; exact (Below.heap_alloc _ _ _ (by simp)).trans (heap_alloc_new w _))
  have KR := Lib.hid (show w1.heap[R]? = some (.cells #[.int .i32 (off : Int), .int .i32 len] 55 (0, 0)) by
    have h := heap_alloc_new (w.alloc (.cells #[.func (.func 71) #[] #[.pointer (some ⟨gk, 0, none⟩), .pointer (some ⟨gm, 0, none⟩), .pointer (some ⟨gh, 0, none⟩), .pointer (some ⟨gs, 0, none⟩)], .func g2 #[] c2, .func g3 #[] c3, .func g4 #[] c4, .int .i8 3, .map none] 83)) (.cells #[.int .i32 (off : Int), .int .i32 len] 55)
    rw [hw1] at h
    rw [← h, ← hR0]; simp)
  have HNL := Lib.hid HG.out.new
  have hLb : b < L := by omega
  have hRb : b < R := by omega
  rw [hw1, hR0, hL0]
  rw [hL0] at HNL
  clear hw1
  have HT1 := Lib.hid (HT.out.fr (Fr.of B1.out))
  have HL1 := Lib.hid (HL.out.of (B1.out.block b hlt))
  have HG1 := Lib.hid (HG.out.fr hgb (Fr.of B1.out))
  have l0 : w1.cell? ⟨L, 0, none⟩ = some (.func (.func 71) #[] #[.pointer (some ⟨gk, 0, none⟩), .pointer (some ⟨gm, 0, none⟩), .pointer (some ⟨gh, 0, none⟩), .pointer (some ⟨gs, 0, none⟩)]) := by rw [Lib.cell_of_heap KL.out]; rfl
  have r0 : w1.cell? ⟨R, 0, none⟩ = some (.int .i32 (off : Int)) := by rw [Lib.cell_of_heap KR.out]; rfl
  have r1 : w1.cell? ⟨R, 1, none⟩ = some (.int .i32 len) := by rw [Lib.cell_of_heap KR.out]; rfl
  have zL := (Array.getElem?_eq_some_iff.1 KL.out).1
  have zR := (Array.getElem?_eq_some_iff.1 KR.out).1
  go_region_held3 (fun w' => w'.cell? ⟨L, 0, none⟩ = some (.func (.func 71) #[] #[.pointer (some ⟨gk, 0, none⟩), .pointer (some ⟨gm, 0, none⟩), .pointer (some ⟨gh, 0, none⟩), .pointer (some ⟨gs, 0, none⟩)]) ∧ w'.cell? ⟨R, 0, none⟩ = some (.int .i32 (off : Int)) ∧ w'.cell? ⟨R, 1, none⟩ = some (.int .i32 len)) (go_keep)
    (first
      | (go_at_call 120; refine (M.out _ (HT1.out.fr (Fr.drewN b 1 _)) (HL1.out.of rfl)).mono ?_; rintro e w2 ⟨⟨p, rfl⟩, hk⟩; have HK := Lib.hid hk; have HF2 := Lib.hid (show Fr b w1 w2 from (by obtain ⟨P', q1, q2, q3, q4⟩ := hk; exact (Fr.drewN b 1 w1).trans q4)); have j0 := (cell_fr HF2.out zL (by omega) 0).trans l0; have j1 := (cell_fr HF2.out zR (by omega) 0).trans r0; have j2 := (cell_fr HF2.out zR (by omega) 1).trans r1; clear hk)
      | (go_at_call 71; refine (A.out _ _ (HG1.out.fr hgb HF2.out)).mono ?_; rintro e w3 ha; obtain rfl := ha.1; have HA := Lib.hid ha; have FX := Lib.hid (show Fx (LgOwn gm gh gs mv) w2 w3 from (by obtain ⟨-, mv', q1, q2, q3⟩ := ha; exact q2)); have hs2 := HF2.out.size; have i0 := (cell_fx FX.out (Nat.lt_of_lt_of_le zL hs2) (HNL.out _ (by omega)) 0).trans j0; have i1 := (cell_fx FX.out (Nat.lt_of_lt_of_le zR hs2) (HNL.out _ (by omega)) 0).trans j1; have i2 := (cell_fx FX.out (Nat.lt_of_lt_of_le zR hs2) (HNL.out _ (by omega)) 1).trans j2; clear ha))
  go_wp2_with fail
  go_end0
  exact lg_close (HK.out.pre ((Fr.of B1.out).trans (Fr.drewN b 1 _))) (HG1.out.fr hgb HF2.out) hgb HA.out
set_option maxHeartbeats 8000000 in
set_option maxRecDepth 1000000 in
theorem addIDI (b gk gm gh gs nm : Nat) (mv : Value) (g2 g3 g4 : Fn) (c2 c3 c4 : Array Value) (P : Nat → Option Value) (s : ByteArray) (k off : Nat) (n cur cp st ln uo kd fl len id mk : Int) (tx : ByteArray) (w : World) (hTB : TB b w) (hP : TrkP P s k) (hL : LB b P n cur cp st ln uo kd fl w) (hG : LgS gk gm gh gs (b + 1) nm mv w) (hgb : gh < b) (hnm : nm ≤ 1073741824) (hs : s.size ≤ 1073741824) (hko : k ≤ off) (hB : Bd s off) (hl0 : -2147483648 ≤ len) (hl1 : len ≤ 2147483647) :
    Calls Tryz.prog 94 #[.agg (logV gk gm gh gs g2 g3 g4 c2 c3 c4), .int .u8 id, .int .u8 mk, .pointer (some ⟨b, 22, none⟩), .agg #[.int .i32 (off : Int), .int .i32 len], .string tx] w fun e w' => LgP b gk gm gh gs nm mv P s off n cur cp st ln uo kd fl w e w' := by
  have M := Lib.hid (fun w hTB hL => msgdI b P s k off n cur cp st ln uo kd fl len tx w hTB hP hL hs hko hB hl0 hl1)
  have A := Lib.hid (fun p w h => addMsgI gk gm gh gs (b + 1) nm mv none 0 0 p tx mk id w h hnm)
  have HT := Lib.hid hTB
  have HL := Lib.hid hL
  have HG := Lib.hid hG
  have hlt := hL.lt
  clear hTB hP hL hG hB
  unfold logV
  go_enter Tryz.func94, Tryz.ntmps94
  go_upto_region 1 with fail
  obtain ⟨L, hL0⟩ : ∃ L, w.heap.size = L := ⟨_, rfl⟩
  obtain ⟨R, hR0⟩ : ∃ R, w.heap.size + 1 = R := ⟨_, rfl⟩
  obtain ⟨w1, hw1⟩ : ∃ x, (w.alloc (.cells #[.func (.func 71) #[] #[.pointer (some ⟨gk, 0, none⟩), .pointer (some ⟨gm, 0, none⟩), .pointer (some ⟨gh, 0, none⟩), .pointer (some ⟨gs, 0, none⟩)], .func g2 #[] c2, .func g3 #[] c3, .func g4 #[] c4, .int .i8 3, .map none] 83)).alloc (.cells #[.int .i32 (off : Int), .int .i32 len] 55) = x := ⟨_, rfl⟩
  have B1 := Lib.hid (show Below w.heap.size w w1 by rw [← hw1]; exact ((Below.refl _ _).alloc (Nat.le_refl _) _).alloc (by simp) _)
  have KL := Lib.hid (show w1.heap[L]? = some (.cells #[.func (.func 71) #[] #[.pointer (some ⟨gk, 0, none⟩), .pointer (some ⟨gm, 0, none⟩), .pointer (some ⟨gh, 0, none⟩), .pointer (some ⟨gs, 0, none⟩)], .func g2 #[] c2, .func g3 #[] c3, .func g4 #[] c4, .int .i8 3, .map none] 83 (0, 0)) by
    rw [← hw1, ← hL0]; exact (Below.heap_alloc _ _ _ (by simp)).trans (heap_alloc_new w _))
  have KR := Lib.hid (show w1.heap[R]? = some (.cells #[.int .i32 (off : Int), .int .i32 len] 55 (0, 0)) by
    have h := heap_alloc_new (w.alloc (.cells #[.func (.func 71) #[] #[.pointer (some ⟨gk, 0, none⟩), .pointer (some ⟨gm, 0, none⟩), .pointer (some ⟨gh, 0, none⟩), .pointer (some ⟨gs, 0, none⟩)], .func g2 #[] c2, .func g3 #[] c3, .func g4 #[] c4, .int .i8 3, .map none] 83)) (.cells #[.int .i32 (off : Int), .int .i32 len] 55)
    rw [hw1] at h
    rw [← h, ← hR0]; simp)
  have HNL := Lib.hid HG.out.new
  have hLb : b < L := by omega
  have hRb : b < R := by omega
  rw [hw1, hR0, hL0]
  rw [hL0] at HNL
  clear hw1
  have HT1 := Lib.hid (HT.out.fr (Fr.of B1.out))
  have HL1 := Lib.hid (HL.out.of (B1.out.block b hlt))
  have HG1 := Lib.hid (HG.out.fr hgb (Fr.of B1.out))
  have l0 : w1.cell? ⟨L, 0, none⟩ = some (.func (.func 71) #[] #[.pointer (some ⟨gk, 0, none⟩), .pointer (some ⟨gm, 0, none⟩), .pointer (some ⟨gh, 0, none⟩), .pointer (some ⟨gs, 0, none⟩)]) := by rw [Lib.cell_of_heap KL.out]; rfl
  have r0 : w1.cell? ⟨R, 0, none⟩ = some (.int .i32 (off : Int)) := by rw [Lib.cell_of_heap KR.out]; rfl
  have r1 : w1.cell? ⟨R, 1, none⟩ = some (.int .i32 len) := by rw [Lib.cell_of_heap KR.out]; rfl
  have zL := (Array.getElem?_eq_some_iff.1 KL.out).1
  have zR := (Array.getElem?_eq_some_iff.1 KR.out).1
  have l5 : w1.cell? ⟨L, 5, none⟩ = some (.map none) := by rw [Lib.cell_of_heap KL.out]; rfl
  go_upto_region 3 with ((go_at_call 121; refine (allowI id mk _).mono ?_; rintro e w' ⟨rfl, rfl⟩))
  go_region_held3 (fun w' => w'.cell? ⟨L, 0, none⟩ = some (.func (.func 71) #[] #[.pointer (some ⟨gk, 0, none⟩), .pointer (some ⟨gm, 0, none⟩), .pointer (some ⟨gh, 0, none⟩), .pointer (some ⟨gs, 0, none⟩)]) ∧ w'.cell? ⟨R, 0, none⟩ = some (.int .i32 (off : Int)) ∧ w'.cell? ⟨R, 1, none⟩ = some (.int .i32 len)) (go_keep)
    (first
      | (go_at_call 120; refine (M.out _ (HT1.out.fr (Fr.drewN b 1 _)) (HL1.out.of rfl)).mono ?_; rintro e w2 ⟨⟨p, rfl⟩, hk⟩; have HK := Lib.hid hk; have HF2 := Lib.hid (show Fr b w1 w2 from (by obtain ⟨P', q1, q2, q3, q4⟩ := hk; exact (Fr.drewN b 1 w1).trans q4)); have j0 := (cell_fr HF2.out zL (by omega) 0).trans l0; have j1 := (cell_fr HF2.out zR (by omega) 0).trans r0; have j2 := (cell_fr HF2.out zR (by omega) 1).trans r1; clear hk)
      | (go_at_call 71; refine (A.out _ _ (HG1.out.fr hgb HF2.out)).mono ?_; rintro e w3 ha; obtain rfl := ha.1; have HA := Lib.hid ha; have FX := Lib.hid (show Fx (LgOwn gm gh gs mv) w2 w3 from (by obtain ⟨-, mv', q1, q2, q3⟩ := ha; exact q2)); have hs2 := HF2.out.size; have i0 := (cell_fx FX.out (Nat.lt_of_lt_of_le zL hs2) (HNL.out _ (by omega)) 0).trans j0; have i1 := (cell_fx FX.out (Nat.lt_of_lt_of_le zR hs2) (HNL.out _ (by omega)) 0).trans j1; have i2 := (cell_fx FX.out (Nat.lt_of_lt_of_le zR hs2) (HNL.out _ (by omega)) 1).trans j2; clear ha))
  go_wp2_with fail
  go_end0
  exact lg_close (HK.out.pre ((Fr.of B1.out).trans (Fr.drewN b 1 _))) (HG1.out.fr hgb HF2.out) hgb HA.out
set_option maxHeartbeats 8000000 in
set_option maxRecDepth 1000000 in
theorem addIDNI (b gk gm gh gs nm : Nat) (mv : Value) (g2 g3 g4 : Fn) (c2 c3 c4 : Array Value) (P : Nat → Option Value) (s : ByteArray) (k off : Nat) (n cur cp st ln uo kd fl len id mk : Int) (tx : ByteArray) (na : Option Addr) (nl nc : Nat) (w : World) (hTB : TB b w) (hP : TrkP P s k) (hL : LB b P n cur cp st ln uo kd fl w) (hG : LgS gk gm gh gs (b + 1) nm mv w) (hgb : gh < b) (hnm : nm ≤ 1073741824) (hs : s.size ≤ 1073741824) (hko : k ≤ off) (hB : Bd s off) (hl0 : -2147483648 ≤ len) (hl1 : len ≤ 2147483647) :
    Calls Tryz.prog 138 #[.agg (logV gk gm gh gs g2 g3 g4 c2 c3 c4), .int .u8 id, .int .u8 mk, .pointer (some ⟨b, 22, none⟩), .agg #[.int .i32 (off : Int), .int .i32 len], .string tx, .slice na nl nc] w fun e w' => LgP b gk gm gh gs nm mv P s off n cur cp st ln uo kd fl w e w' := by
  have M := Lib.hid (fun w hTB hL => msgdI b P s k off n cur cp st ln uo kd fl len tx w hTB hP hL hs hko hB hl0 hl1)
  have A := Lib.hid (fun p w h => addMsgI gk gm gh gs (b + 1) nm mv na nl nc p tx mk id w h hnm)
  have HT := Lib.hid hTB
  have HL := Lib.hid hL
  have HG := Lib.hid hG
  have hlt := hL.lt
  clear hTB hP hL hG hB
  unfold logV
  go_enter Tryz.func138, Tryz.ntmps138
  go_upto_region 1 with fail
  obtain ⟨L, hL0⟩ : ∃ L, w.heap.size = L := ⟨_, rfl⟩
  obtain ⟨R, hR0⟩ : ∃ R, w.heap.size + 1 = R := ⟨_, rfl⟩
  obtain ⟨w1, hw1⟩ : ∃ x, (w.alloc (.cells #[.func (.func 71) #[] #[.pointer (some ⟨gk, 0, none⟩), .pointer (some ⟨gm, 0, none⟩), .pointer (some ⟨gh, 0, none⟩), .pointer (some ⟨gs, 0, none⟩)], .func g2 #[] c2, .func g3 #[] c3, .func g4 #[] c4, .int .i8 3, .map none] 83)).alloc (.cells #[.int .i32 (off : Int), .int .i32 len] 55) = x := ⟨_, rfl⟩
  have B1 := Lib.hid (show Below w.heap.size w w1 by rw [← hw1]; exact ((Below.refl _ _).alloc (Nat.le_refl _) _).alloc (by simp) _)
  have KL := Lib.hid (show w1.heap[L]? = some (.cells #[.func (.func 71) #[] #[.pointer (some ⟨gk, 0, none⟩), .pointer (some ⟨gm, 0, none⟩), .pointer (some ⟨gh, 0, none⟩), .pointer (some ⟨gs, 0, none⟩)], .func g2 #[] c2, .func g3 #[] c3, .func g4 #[] c4, .int .i8 3, .map none] 83 (0, 0)) by
    rw [← hw1, ← hL0]; exact (Below.heap_alloc _ _ _ (by simp)).trans (heap_alloc_new w _))
  have KR := Lib.hid (show w1.heap[R]? = some (.cells #[.int .i32 (off : Int), .int .i32 len] 55 (0, 0)) by
    have h := heap_alloc_new (w.alloc (.cells #[.func (.func 71) #[] #[.pointer (some ⟨gk, 0, none⟩), .pointer (some ⟨gm, 0, none⟩), .pointer (some ⟨gh, 0, none⟩), .pointer (some ⟨gs, 0, none⟩)], .func g2 #[] c2, .func g3 #[] c3, .func g4 #[] c4, .int .i8 3, .map none] 83)) (.cells #[.int .i32 (off : Int), .int .i32 len] 55)
    rw [hw1] at h
    rw [← h, ← hR0]; simp)
  have HNL := Lib.hid HG.out.new
  have hLb : b < L := by omega
  have hRb : b < R := by omega
  rw [hw1, hR0, hL0]
  rw [hL0] at HNL
  clear hw1
  have HT1 := Lib.hid (HT.out.fr (Fr.of B1.out))
  have HL1 := Lib.hid (HL.out.of (B1.out.block b hlt))
  have HG1 := Lib.hid (HG.out.fr hgb (Fr.of B1.out))
  have l0 : w1.cell? ⟨L, 0, none⟩ = some (.func (.func 71) #[] #[.pointer (some ⟨gk, 0, none⟩), .pointer (some ⟨gm, 0, none⟩), .pointer (some ⟨gh, 0, none⟩), .pointer (some ⟨gs, 0, none⟩)]) := by rw [Lib.cell_of_heap KL.out]; rfl
  have r0 : w1.cell? ⟨R, 0, none⟩ = some (.int .i32 (off : Int)) := by rw [Lib.cell_of_heap KR.out]; rfl
  have r1 : w1.cell? ⟨R, 1, none⟩ = some (.int .i32 len) := by rw [Lib.cell_of_heap KR.out]; rfl
  have zL := (Array.getElem?_eq_some_iff.1 KL.out).1
  have zR := (Array.getElem?_eq_some_iff.1 KR.out).1
  have l5 : w1.cell? ⟨L, 5, none⟩ = some (.map none) := by rw [Lib.cell_of_heap KL.out]; rfl
  go_upto_region 3 with ((go_at_call 121; refine (allowI id mk _).mono ?_; rintro e w' ⟨rfl, rfl⟩))
  go_region_held3 (fun w' => w'.cell? ⟨L, 0, none⟩ = some (.func (.func 71) #[] #[.pointer (some ⟨gk, 0, none⟩), .pointer (some ⟨gm, 0, none⟩), .pointer (some ⟨gh, 0, none⟩), .pointer (some ⟨gs, 0, none⟩)]) ∧ w'.cell? ⟨R, 0, none⟩ = some (.int .i32 (off : Int)) ∧ w'.cell? ⟨R, 1, none⟩ = some (.int .i32 len)) (go_keep)
    (first
      | (go_at_call 120; refine (M.out _ (HT1.out.fr (Fr.drewN b 1 _)) (HL1.out.of rfl)).mono ?_; rintro e w2 ⟨⟨p, rfl⟩, hk⟩; have HK := Lib.hid hk; have HF2 := Lib.hid (show Fr b w1 w2 from (by obtain ⟨P', q1, q2, q3, q4⟩ := hk; exact (Fr.drewN b 1 w1).trans q4)); have j0 := (cell_fr HF2.out zL (by omega) 0).trans l0; have j1 := (cell_fr HF2.out zR (by omega) 0).trans r0; have j2 := (cell_fr HF2.out zR (by omega) 1).trans r1; clear hk)
      | (go_at_call 71; refine (A.out _ _ (HG1.out.fr hgb HF2.out)).mono ?_; rintro e w3 ha; obtain rfl := ha.1; have HA := Lib.hid ha; have FX := Lib.hid (show Fx (LgOwn gm gh gs mv) w2 w3 from (by obtain ⟨-, mv', q1, q2, q3⟩ := ha; exact q2)); have hs2 := HF2.out.size; have i0 := (cell_fx FX.out (Nat.lt_of_lt_of_le zL hs2) (HNL.out _ (by omega)) 0).trans j0; have i1 := (cell_fx FX.out (Nat.lt_of_lt_of_le zR hs2) (HNL.out _ (by omega)) 0).trans j1; have i2 := (cell_fx FX.out (Nat.lt_of_lt_of_le zR hs2) (HNL.out _ (by omega)) 1).trans j2; clear ha))
  go_wp2_with fail
  go_end0
  exact lg_close (HK.out.pre ((Fr.of B1.out).trans (Fr.drewN b 1 _))) (HG1.out.fr hgb HF2.out) hgb HA.out
end Go.Proofs.YtmgkccnfhkcncaaGreatDoor
