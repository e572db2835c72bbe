/-
  The numbers under which this dump holds sync.Mutex and its functions, and that it holds them (the kit's MuLib). The log that NewDeferLog makes: AddMsg's closure.
-/
import Derived.Test.YtmgkccnfhkcncaaGreatDoorProg
import Derived.Conc.MuLib
import Derived.Conc.MuLone
import Derived.KernelRfl
import Derived.Test.YtmgkccnfhkcncaaGreatDoorLgA
import Derived.Test.YtmgkccnfhkcncaaGreatDoorTokA
import Derived.Deep.AppendLies
import Derived.Defers
namespace Go.Proofs.YtmgkccnfhkcncaaGreatDoor
open Go

abbrev muLink : Go.Conc.Locks.MuLink := { lock := 72, unlock := 73, ilock := 89, iunlock := 90, lockSlow := 110, unlockSlow := 113, disable := 106, enable := 108, acquire := 109, relMerge := 111, cas32 := 107, add32 := 112, tMutex := 109, tIMutex := 107, tPMutex := 136, tPIMutex := 152, tPI32 := 154, tUP := 156, tNoCopy := 105, tU32 := 94 }
theorem muLib : Go.Conc.Locks.MuLib Tryz.prog muLink :=
  ⟨Tryz.func72, Tryz.func73, Tryz.func89, Tryz.func90, Tryz.func106, Tryz.func108, Tryz.func109, Tryz.func111, Tryz.func107, Tryz.func112,
   Tryz.underlying107, Tryz.runUnderlying107, Tryz.sizeOf107, Tryz.isAgg107, Tryz.zeroValue107, Tryz.underlying109, Tryz.runUnderlying109, Tryz.sizeOf109, Tryz.isAgg109, Tryz.zeroValue109, Tryz.underlying136, Tryz.runUnderlying136, Tryz.sizeOf136, Tryz.isAgg136, Tryz.zeroValue136, Tryz.underlying152, Tryz.runUnderlying152, Tryz.sizeOf152, Tryz.isAgg152, Tryz.zeroValue152,
   Tryz.underlying154, Tryz.runUnderlying154, Tryz.sizeOf154, Tryz.isAgg154, Tryz.zeroValue154, Tryz.underlying156, Tryz.runUnderlying156, Tryz.sizeOf156, Tryz.isAgg156, Tryz.zeroValue156, Tryz.underlying105, Tryz.runUnderlying105, Tryz.sizeOf105, Tryz.isAgg105, Tryz.zeroValue105, Tryz.underlying21, Tryz.runUnderlying21, Tryz.sizeOf21, Tryz.isAgg21, Tryz.zeroValue21, (by kernel_rfl)⟩
end Go.Proofs.YtmgkccnfhkcncaaGreatDoor

namespace Go.Proofs.YtmgkccnfhkcncaaGreatDoor
open Go.RowKit Go.MuLone
attribute [local go_sem ↓] Go.wp_at_zero Go.wp_at_succ

/-- All blocks that stood, but those of S, stand as they stood. -/
structure Fx (S : Nat → Prop) (w w' : World) : Prop where
  os : w'.os = w.os
  tape : w'.tape = w.tape
  output : w'.output = w.output
  size : w.heap.size ≤ w'.heap.size
  block : ∀ k, k < w.heap.size → ¬ S k → w'.heap[k]? = w.heap[k]?
theorem Fx.refl (S : Nat → Prop) (w : World) : Fx S w w := ⟨rfl, rfl, rfl, Nat.le_refl _, fun _ _ _ => rfl⟩
theorem Fx.trans {S S' : Nat → Prop} {u v w : World} (h : Fx S u v) (k : Fx S' v w) (hs : ∀ i, S' i → S i ∨ u.heap.size ≤ i) : Fx S u w :=
  ⟨k.os.trans h.os, k.tape.trans h.tape, k.output.trans h.output, Nat.le_trans h.size k.size, fun i hi hb => (k.block i (Nat.lt_of_lt_of_le hi h.size) (fun h2 => by rcases hs i h2 with h3 | h3; exact hb h3; omega)).trans (h.block i hi hb)⟩
theorem Fx.more {S S' : Nat → Prop} {w w' : World} (h : Fx S w w') (hs : ∀ i, S i → S' i) : Fx S' w w' := ⟨h.os, h.tape, h.output, h.size, fun k hk hb => h.block k hk (fun h2 => hb (hs k h2))⟩
theorem Fr.fx {b : Nat} {S : Nat → Prop} {w w' : World} (h : Fr b w w') (hb : S b) : Fx S w w' := ⟨h.os, h.tape, h.output, h.size, fun k hk hn => h.block k hk (fun e => hn (e ▸ hb))⟩
theorem Below.fx {S : Nat → Prop} {w w' : World} (h : Below w.heap.size w w') : Fx S w w' := ⟨h.os, h.tape, h.output, h.size, fun k hk _ => h.block k hk⟩
theorem Fx.setCell {S : Nat → Prop} (w : World) {H : Nat} (i : Nat) (v : Value) (hH : S H) : Fx S w (w.setCell ⟨H, i, none⟩ v) :=
  ⟨rfl, rfl, rfl, by simp [World.setCell], fun k _ hk => by
    have : k ≠ H := fun e => hk (e ▸ hH)
    simp only [World.setCell, Array.getElem?_modify, if_neg (Ne.symm this)]⟩
theorem Fx.grown {S : Nat → Prop} {w w' : World} {row : Option Nat} (g : w.grownBy w' row) (hr : ∀ k, row = some k → S k) : Fx S w w' :=
  ⟨g.os, g.tape, g.output, g.size, fun k hk hn => g.block k hk (fun e => hn (hr k e.symm))⟩

theorem infoMsg : (Tryz.prog.info? 116).map (fun i => (i.zero, i.size, i.bytes)) = some (some (.agg #[.slice none 0 0, .string ⟨#[]⟩, .nilIface, .pointer none, .string ⟨#[]⟩, .bool false, .int .u8 0, .int .u8 0]), 8, 96) := by kernel_rfl
/-- The log's blocks: its kind, its lock, whether it has errors, its messages. -/
structure LgS (gk gm gh gs base nm : Nat) (mv : Value) (w : World) : Prop where
  kind : w.heap[gk]? = some (.cells #[.int .u8 0] 85 (0, 0))
  lock : w.heap[gm]? = some (.cells #[.int .i32 0, .int .u32 0] 109 (0, 0))
  errs : ∃ x, w.heap[gh]? = some (.cells #[.bool x] 4 (0, 0))
  msgs : w.heap[gs]? = some (.cells #[mv] 103 (0, 0))
  row : ∃ xs, w.ownsRow base 116 8 mv nm xs
  apart : gk < gs ∧ gs < gm ∧ gm < gh ∧ gh < base ∧ base ≤ w.heap.size
/-- The log's blocks that AddMsg writes. -/
def LgOwn (gm gh gs : Nat) (mv : Value) (k : Nat) : Prop := k = gm ∨ k = gh ∨ k = gs ∨ mv.ownBlock = some k
theorem heap_other {w : World} {g k : Nat} (i : Nat) (v : Value) (h : k ≠ g) : (w.setCell ⟨g, i, none⟩ v).heap[k]? = w.heap[k]? := by
  simp only [World.setCell, Array.getElem?_modify, if_neg (Ne.symm h)]
theorem row_heap {w w' : World} {base : Nat} {e : TypeId} {size : Nat} {v : Value} {n : Nat} {xs : List Value} (h : w.ownsRow base e size v n xs) (hb : ∀ k, base ≤ k → k < w.heap.size → w'.heap[k]? = w.heap[k]?) : w'.ownsRow base e size v n xs := by
  refine ⟨h.1, ?_⟩
  rcases h.2 with hn | ⟨g, cap, cur, rfl, hg, hgg, rest⟩
  · exact .inl hn
  · refine .inr ⟨g, cap, cur, rfl, hg, ?_, rest⟩
    rw [hb g hg (Array.getElem?_eq_some_iff.1 hgg).1]
    exact hgg
theorem own_base {w : World} {base : Nat} {e : TypeId} {size : Nat} {v : Value} {n : Nat} {xs : List Value} (h : w.ownsRow base e size v n xs) {k : Nat} (hk : v.ownBlock = some k) : base ≤ k ∧ k < w.heap.size := by
  rcases h.2 with ⟨rfl, _⟩ | ⟨g, cap, cur, rfl, hg, hgg, _⟩
  · cases hk
  · injection hk with hk
    subst hk
    exact ⟨hg, (Array.getElem?_eq_some_iff.1 hgg).1⟩

/-- The log is locked; it may have an error. -/
structure Mid (gm gh : Nat) (w1 w3 : World) : Prop where
  lock : w3.heap[gm]? = some (.cells #[.int .i32 1, .int .u32 0] 109 (0, 0))
  errs : ∃ y, w3.heap[gh]? = some (.cells #[.bool y] 4 (0, 0))
  same : ∀ k, k ≠ gm → k ≠ gh → w3.heap[k]? = w1.heap[k]?
  size : w3.heap.size = w1.heap.size
  os : w3.os = w1.os
  tape : w3.tape = w1.tape
  output : w3.output = w1.output
theorem mid_no {gm gh : Nat} {w1 : World} {x : Bool} (hm : w1.heap[gm]? = some (.cells #[.int .i32 0, .int .u32 0] 109 (0, 0))) (hh : w1.heap[gh]? = some (.cells #[.bool x] 4 (0, 0))) (hne : gm ≠ gh) : Mid gm gh w1 (w1.setCell ⟨gm, 0, none⟩ (.int .i32 1)) :=
  ⟨heap_put hm 0 _, ⟨x, (heap_other 0 _ (Ne.symm hne)).trans hh⟩, fun k hk _ => heap_other 0 _ hk, by simp [World.setCell], rfl, rfl, rfl⟩
theorem mid_err {gm gh : Nat} {w1 : World} {x : Bool} (hm : w1.heap[gm]? = some (.cells #[.int .i32 0, .int .u32 0] 109 (0, 0))) (hh : w1.heap[gh]? = some (.cells #[.bool x] 4 (0, 0))) (hne : gm ≠ gh) : Mid gm gh w1 ((w1.setCell ⟨gm, 0, none⟩ (.int .i32 1)).setCell ⟨gh, 0, none⟩ (.bool true)) :=
  ⟨(heap_other 0 _ hne).trans (heap_put hm 0 _), ⟨true, heap_put ((heap_other 0 _ (Ne.symm hne)).trans hh) 0 _⟩, fun k hk hk2 => (heap_other 0 _ hk2).trans (heap_other 0 _ hk), by simp [World.setCell], rfl, rfl, rfl⟩
/-- What AddMsg's caller sees. -/
def AmP (gk gm gh gs base nm : Nat) (mv : Value) (w : World) (e : Ending) (w' : World) : Prop :=
  e = .returned (.tuple #[]) ∧ ∃ mv', LgS gk gm gh gs base (nm + 1) mv' w' ∧ Fx (LgOwn gm gh gs mv) w w' ∧ ∀ k, mv'.ownBlock = some k → mv.ownBlock = some k ∨ w.heap.size ≤ k
theorem am_end {gk gm gh gs base nm g6 cap B : Nat} {mv : Value} {xs ys : List Value} {w w1 w3 w6 : World} {o : Obj} (H : LgS gk gm gh gs base nm mv w) (B1 : Below w.heap.size w w1) (G3 : Mid gm gh w1 w3) (hB : w.heap.size = B) (hown : w6.ownsRow base 116 8 (.slice (some ⟨g6, 0, none⟩) (nm + 1) cap) (nm + 1) (xs ++ ys)) (hg : (w3.alloc o).grownBy w6 mv.ownBlock) (hat : mv.ownBlock = some g6 ∨ g6 = w3.heap.size + 1)
    (KS : w6.heap[gs]? = some (.cells #[mv] 103 (0, 0))) (KM : w6.heap[gm]? = some (.cells #[.int .i32 1, .int .u32 0] 109 (0, 0))) (hne : ∀ k, k < base → some k ≠ mv.ownBlock) :
    ∃ mv', LgS gk gm gh gs base (nm + 1) mv' ((w6.setCell ⟨gs, 0, none⟩ (.slice (some ⟨g6, 0, none⟩) (nm + 1) cap)).setCell ⟨gm, 0, none⟩ (.int .i32 0)) ∧ Fx (LgOwn gm gh gs mv) w ((w6.setCell ⟨gs, 0, none⟩ (.slice (some ⟨g6, 0, none⟩) (nm + 1) cap)).setCell ⟨gm, 0, none⟩ (.int .i32 0)) ∧ ∀ k, mv'.ownBlock = some k → mv.ownBlock = some k ∨ w.heap.size ≤ k := by
  obtain ⟨a1, a2, a3, a4, a5⟩ := H.apart
  have s1 : w.heap.size ≤ w1.heap.size := B1.size
  have s3 : w3.heap.size = w1.heap.size := G3.size
  have s6 : w3.heap.size + 1 ≤ w6.heap.size := by have := hg.size; simpa using this
  have two : ∀ k, k ≠ gs → k ≠ gm → ((w6.setCell ⟨gs, 0, none⟩ (.slice (some ⟨g6, 0, none⟩) (nm + 1) cap)).setCell ⟨gm, 0, none⟩ (.int .i32 0)).heap[k]? = w6.heap[k]? := fun k h1 h2 => (heap_other 0 _ h2).trans (heap_other 0 _ h1)
  have low : ∀ k, k < w3.heap.size → some k ≠ mv.ownBlock → w6.heap[k]? = w3.heap[k]? := fun k h1 h2 => (hg.block k (by simp; omega) h2).trans (Below.heap_alloc _ _ _ h1)
  refine ⟨.slice (some ⟨g6, 0, none⟩) (nm + 1) cap, ⟨?_, ?_, ?_, ?_, ?_, ⟨a1, a2, a3, a4, ?_⟩⟩, ?_, ?_⟩
  · rw [two gk (by omega) (by omega), low gk (by omega) (hne gk (by omega)), G3.same gk (by omega) (by omega), B1.block gk (by omega)]
    exact H.kind
  · exact heap_put ((heap_other 0 _ (by omega)).trans KM) 0 _
  · obtain ⟨y, hy⟩ := G3.errs
    refine ⟨y, ?_⟩
    rw [two gh (by omega) (by omega), low gh (by omega) (hne gh (by omega))]
    exact hy
  · exact (heap_other 0 _ (by omega)).trans (heap_put KS 0 _)
  · exact ⟨xs ++ ys, row_heap hown fun k hk _ => two k (by omega) (by omega)⟩
  · simp [World.setCell]; omega
  · refine ⟨?_, ?_, ?_, ?_, ?_⟩
    · exact hg.os.trans (G3.os.trans B1.os)
    · exact hg.tape.trans (G3.tape.trans B1.tape)
    · exact hg.output.trans (G3.output.trans B1.output)
    · simp [World.setCell]; omega
    · intro k hk hn
      have n1 : k ≠ gm := fun e => hn (.inl e)
      have n2 : k ≠ gh := fun e => hn (.inr (.inl e))
      have n3 : k ≠ gs := fun e => hn (.inr (.inr (.inl e)))
      have n4 : some k ≠ mv.ownBlock := fun e => hn (.inr (.inr (.inr e.symm)))
      rw [two k n3 n1, low k (by omega) n4, G3.same k n1 n2, B1.block k hk]
  · intro k hk
    injection hk with hk
    subst hk
    rcases hat with h | h
    · exact .inl h
    · exact .inr (by show w.heap.size ≤ g6; omega)
set_option maxHeartbeats 8000000 in
set_option maxRecDepth 1000000 in
theorem addMsgI (gk gm gh gs base nm : Nat) (mv : Value) (na : Option Addr) (nl nc : Nat) (p : Option Addr) (tx : ByteArray) (kd id : Int) (w : World) (h : LgS gk gm gh gs base nm mv w) (hnm : nm ≤ 1073741824) :
    Calls Tryz.prog 71 #[.agg #[.slice na nl nc, .string ⟨#[]⟩, .nilIface, .pointer p, .string tx, .bool false, .int .u8 kd, .int .u8 id], .pointer (some ⟨gk, 0, none⟩), .pointer (some ⟨gm, 0, none⟩), .pointer (some ⟨gh, 0, none⟩), .pointer (some ⟨gs, 0, none⟩)] w fun e w' => AmP gk gm gh gs base nm mv w e w' := by
  have H := Lib.hid h
  have bk := (Array.getElem?_eq_some_iff.1 h.kind).1
  have bm := (Array.getElem?_eq_some_iff.1 h.lock).1
  have bh : gh < w.heap.size := by obtain ⟨x, hx⟩ := h.errs; exact (Array.getElem?_eq_some_iff.1 hx).1
  have bs := (Array.getElem?_eq_some_iff.1 h.msgs).1
  clear h
  go_enter_defers Tryz.func71, Tryz.ntmps71
  go_upto_region 1 with fail
  obtain ⟨B, hB⟩ : ∃ B, w.heap.size = B := ⟨_, rfl⟩
  obtain ⟨w1, hw1⟩ : ∃ x, w.alloc (.cells #[.slice na nl nc, .string ⟨#[]⟩, .nilIface, .pointer p, .string tx, .bool false, .int .u8 kd, .int .u8 id] 116) = x := ⟨_, rfl⟩
  have KB := Lib.hid (show w1.heap[B]? = some (.cells #[.slice na nl nc, .string ⟨#[]⟩, .nilIface, .pointer p, .string tx, .bool false, .int .u8 kd, .int .u8 id] 116 (0, 0)) by rw [← hw1, ← hB]; exact heap_alloc_new w _)
  have B1 := Lib.hid (show Below w.heap.size w w1 by rw [← hw1]; exact (Below.refl _ _).alloc (Nat.le_refl _) _)
  rw [hw1, hB]
  rw [hB] at bk bm bh bs
  clear hw1
  obtain ⟨x, hx⟩ := H.out.errs
  have KK := Lib.hid ((B1.out.block gk (by omega)).trans H.out.kind)
  have KM := Lib.hid ((B1.out.block gm (by omega)).trans H.out.lock)
  have KH := Lib.hid ((B1.out.block gh (by omega)).trans hx)
  have KS := Lib.hid ((B1.out.block gs (by omega)).trans H.out.msgs)
  clear hx
  have c0 : w1.cell? ⟨gk, 0, none⟩ = some (.int .u8 0) := by rw [Lib.cell_of_heap KK.out]; rfl
  have m0 : w1.cell? ⟨gm, 0, none⟩ = some (.int .i32 0) := by rw [Lib.cell_of_heap KM.out]; rfl
  have fm := Lib.frozen_of_heap KM.out 0
  go_wp2_with fail
  refine (lock_free muLib ⟨gm, 0, none⟩ _ m0 fm).mono ?_
  rintro e w2' ⟨rfl, rfl⟩
  obtain ⟨xs, hxs⟩ := H.out.row
  obtain ⟨i0, hi, hz0, hz1, hz2⟩ := parts_of infoMsg
  obtain ⟨a1, a2, a3, a4, a5⟩ := H.out.apart
  rw [hB] at a5
  have ROW1 := Lib.hid (row_heap (w' := w1) hxs fun k _ hk => B1.out.block k hk)
  clear hxs
  have q6 : (w1.setCell ⟨gm, 0, none⟩ (.int .i32 1)).cell? ⟨B, 6, none⟩ = some (.int .u8 kd) := by
    rw [Lib.cell_of_heap ((heap_other 0 _ (by omega)).trans KB.out)]; rfl
  have hq0 : (w1.setCell ⟨gm, 0, none⟩ (.int .i32 1)).cell? ⟨gh, 0, none⟩ = some (.bool x) := by
    rw [Lib.cell_of_heap ((heap_other 0 _ (by omega)).trans KH.out)]; rfl
  have hqf : (w1.setCell ⟨gm, 0, none⟩ (.int .i32 1)).frozen? ⟨gh, 0, none⟩ = false := Lib.frozen_of_heap ((heap_other 0 _ (by omega)).trans KH.out) 0
  by_cases g : kd = 0
  · have t0 : (kd == 0) = true := beq_iff_eq.2 g
    clear g
    go_upto_region 6 with fail
    obtain ⟨w3, hw3⟩ : ∃ x, (w1.setCell ⟨gm, 0, none⟩ (.int .i32 1)).setCell ⟨gh, 0, none⟩ (.bool true) = x := ⟨_, rfl⟩
    have G3 := Lib.hid (show Mid gm gh w1 w3 from by rw [← hw3]; exact mid_err KM.out KH.out (by omega))
    rw [hw3]
    clear hw3
    have ROW3 := Lib.hid (row_heap (w' := w3) ROW1.out fun k hk _ => G3.out.same k (by omega) (by omega))
    have KS3 := Lib.hid ((G3.out.same gs (by omega) (by omega)).trans KS.out)
    have KB3 := Lib.hid ((G3.out.same B (by omega) (by omega)).trans KB.out)
    have s0 : w3.cell? ⟨gs, 0, none⟩ = some mv := by rw [Lib.cell_of_heap KS3.out]; rfl
    have b0 : w3.cell? ⟨B, 0, none⟩ = some (.slice na nl nc) := by rw [Lib.cell_of_heap KB3.out]; rfl
    have b1 : w3.cell? ⟨B, 1, none⟩ = some (.string ⟨#[]⟩) := by rw [Lib.cell_of_heap KB3.out]; rfl
    have b2 : w3.cell? ⟨B, 2, none⟩ = some .nilIface := by rw [Lib.cell_of_heap KB3.out]; rfl
    have b3 : w3.cell? ⟨B, 3, none⟩ = some (.pointer p) := by rw [Lib.cell_of_heap KB3.out]; rfl
    have b4 : w3.cell? ⟨B, 4, none⟩ = some (.string tx) := by rw [Lib.cell_of_heap KB3.out]; rfl
    have b5 : w3.cell? ⟨B, 5, none⟩ = some (.bool false) := by rw [Lib.cell_of_heap KB3.out]; rfl
    have b6 : w3.cell? ⟨B, 6, none⟩ = some (.int .u8 kd) := by rw [Lib.cell_of_heap KB3.out]; rfl
    have b7 : w3.cell? ⟨B, 7, none⟩ = some (.int .u8 id) := by rw [Lib.cell_of_heap KB3.out]; rfl
    have hz3 : w1.heap.size = w3.heap.size := G3.out.size.symm
    have hB1 : B < w1.heap.size := (Array.getElem?_eq_some_iff.1 KB.out).1
    have zs := Lib.frozen_of_heap KS3.out 0
    have HNE := Lib.hid (show ∀ k, k < base → some k ≠ mv.ownBlock from fun k hk e => by have := (own_base ROW3.out e.symm).1; omega)
    clear c0 m0 fm q6
    go_wp2_with (at_builtin; refine wpList_append_lies _ rfl _ _ 103 rfl base 116 i0 _ 8 96 Tryz.underlying103 hi hz0 hz1 hz2 rfl (by decide) _ nm xs rfl (ROW3.out.alloc _) ⟨w3.heap.size, 0, none⟩ 1 1 [.slice na nl nc, .string ⟨#[]⟩, .nilIface, .pointer p, .string tx, .bool false, .int .u8 kd, .int .u8 id] rfl rfl (World.news_of_block (heap_alloc_new w3 _)) (fun u hu => by simp at hu; rcases hu with rfl | rfl | rfl | rfl | rfl | rfl | rfl | rfl <;> rfl) (by decide) (by unfold maxLen; omega) (by omega) (by simp; omega) (w3.heap.size + 1) (by simp) ?_; intro g6 cap w6 hown6 hgrow hat hlt6; have KS6 := Lib.hid ((hgrow.block gs (by simp; omega) (HNE.out gs (by omega))).trans ((Below.heap_alloc _ _ _ (by omega)).trans KS3.out)); have s6 : w6.cell? ⟨gs, 0, none⟩ = some mv := (by rw [Lib.cell_of_heap KS6.out]; rfl); have zs6 := Lib.frozen_of_heap KS6.out 0)
    refine leaves_cons (f := 73) (args := #[.pointer (some ⟨gm, 0, none⟩)]) (by simp) (by simp [go_sem]) ?_
    have KM6 := Lib.hid ((hgrow.block gm (by simp; omega) (HNE.out gm (by omega))).trans ((Below.heap_alloc _ _ _ (by omega)).trans G3.out.lock))
    refine (unlock_deferred muLib ⟨gm, 0, none⟩ .returning _ ?_ ?_).mono ?_
    · rw [Lib.cell_of_heap ((heap_other 0 _ (by omega)).trans KM6.out)]; rfl
    · exact Lib.frozen_of_heap ((heap_other 0 _ (by omega)).trans KM6.out) 0
    rintro e u' w'' ⟨rfl, rfl, rfl⟩
    refine ⟨_, results_none rfl _ _ _, rfl, ?_⟩
    exact am_end H.out B1.out G3.out hB hown6 hgrow hat KS6.out KM6.out HNE.out
  · have t0 : (kd == 0) = false := beq_eq_false_iff_ne.2 g
    clear g
    go_upto_region 6 with fail
    obtain ⟨w3, hw3⟩ : ∃ x, w1.setCell ⟨gm, 0, none⟩ (.int .i32 1) = x := ⟨_, rfl⟩
    have G3 := Lib.hid (show Mid gm gh w1 w3 from by rw [← hw3]; exact mid_no KM.out KH.out (by omega))
    rw [hw3]
    clear hw3
    have ROW3 := Lib.hid (row_heap (w' := w3) ROW1.out fun k hk _ => G3.out.same k (by omega) (by omega))
    have KS3 := Lib.hid ((G3.out.same gs (by omega) (by omega)).trans KS.out)
    have KB3 := Lib.hid ((G3.out.same B (by omega) (by omega)).trans KB.out)
    have s0 : w3.cell? ⟨gs, 0, none⟩ = some mv := by rw [Lib.cell_of_heap KS3.out]; rfl
    have b0 : w3.cell? ⟨B, 0, none⟩ = some (.slice na nl nc) := by rw [Lib.cell_of_heap KB3.out]; rfl
    have b1 : w3.cell? ⟨B, 1, none⟩ = some (.string ⟨#[]⟩) := by rw [Lib.cell_of_heap KB3.out]; rfl
    have b2 : w3.cell? ⟨B, 2, none⟩ = some .nilIface := by rw [Lib.cell_of_heap KB3.out]; rfl
    have b3 : w3.cell? ⟨B, 3, none⟩ = some (.pointer p) := by rw [Lib.cell_of_heap KB3.out]; rfl
    have b4 : w3.cell? ⟨B, 4, none⟩ = some (.string tx) := by rw [Lib.cell_of_heap KB3.out]; rfl
    have b5 : w3.cell? ⟨B, 5, none⟩ = some (.bool false) := by rw [Lib.cell_of_heap KB3.out]; rfl
    have b6 : w3.cell? ⟨B, 6, none⟩ = some (.int .u8 kd) := by rw [Lib.cell_of_heap KB3.out]; rfl
    have b7 : w3.cell? ⟨B, 7, none⟩ = some (.int .u8 id) := by rw [Lib.cell_of_heap KB3.out]; rfl
    have hz3 : w1.heap.size = w3.heap.size := G3.out.size.symm
    have hB1 : B < w1.heap.size := (Array.getElem?_eq_some_iff.1 KB.out).1
    have zs := Lib.frozen_of_heap KS3.out 0
    have HNE := Lib.hid (show ∀ k, k < base → some k ≠ mv.ownBlock from fun k hk e => by have := (own_base ROW3.out e.symm).1; omega)
    clear c0 m0 fm q6
    go_wp2_with (at_builtin; refine wpList_append_lies _ rfl _ _ 103 rfl base 116 i0 _ 8 96 Tryz.underlying103 hi hz0 hz1 hz2 rfl (by decide) _ nm xs rfl (ROW3.out.alloc _) ⟨w3.heap.size, 0, none⟩ 1 1 [.slice na nl nc, .string ⟨#[]⟩, .nilIface, .pointer p, .string tx, .bool false, .int .u8 kd, .int .u8 id] rfl rfl (World.news_of_block (heap_alloc_new w3 _)) (fun u hu => by simp at hu; rcases hu with rfl | rfl | rfl | rfl | rfl | rfl | rfl | rfl <;> rfl) (by decide) (by unfold maxLen; omega) (by omega) (by simp; omega) (w3.heap.size + 1) (by simp) ?_; intro g6 cap w6 hown6 hgrow hat hlt6; have KS6 := Lib.hid ((hgrow.block gs (by simp; omega) (HNE.out gs (by omega))).trans ((Below.heap_alloc _ _ _ (by omega)).trans KS3.out)); have s6 : w6.cell? ⟨gs, 0, none⟩ = some mv := (by rw [Lib.cell_of_heap KS6.out]; rfl); have zs6 := Lib.frozen_of_heap KS6.out 0)
    refine leaves_cons (f := 73) (args := #[.pointer (some ⟨gm, 0, none⟩)]) (by simp) (by simp [go_sem]) ?_
    have KM6 := Lib.hid ((hgrow.block gm (by simp; omega) (HNE.out gm (by omega))).trans ((Below.heap_alloc _ _ _ (by omega)).trans G3.out.lock))
    refine (unlock_deferred muLib ⟨gm, 0, none⟩ .returning _ ?_ ?_).mono ?_
    · rw [Lib.cell_of_heap ((heap_other 0 _ (by omega)).trans KM6.out)]; rfl
    · exact Lib.frozen_of_heap ((heap_other 0 _ (by omega)).trans KM6.out) 0
    rintro e u' w'' ⟨rfl, rfl, rfl⟩
    refine ⟨_, results_none rfl _ _ _, rfl, ?_⟩
    exact am_end H.out B1.out G3.out hB hown6 hgrow hat KS6.out KM6.out HNE.out
end Go.Proofs.YtmgkccnfhkcncaaGreatDoor
