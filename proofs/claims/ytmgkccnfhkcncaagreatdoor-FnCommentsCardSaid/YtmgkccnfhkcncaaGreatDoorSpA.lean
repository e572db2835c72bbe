/-
  The reference's lexer in memory: its four cells; peek, take. spec.encoded. The reference's lexer: newline, spaces, digits, escape, name; identifies.
-/
import Derived.Test.YtmgkccnfhkcncaaGreatDoorMA
import Derived.Test.YtmgkccnfhkcncaaGreatDoorUnt
import Derived.Deep.QuietTactic
import Derived.BigQuiet
import Derived.Lib.SlBytesRow
import Derived.Lib.SmallJoins
import Derived.Test.YtmgkccnfhkcncaaGreatDoorMG
namespace Go.Proofs.YtmgkccnfhkcncaaGreatDoor
open Go.RowKit

/-! ### the lexer's block -/
/-- Block b is a lexer: its text, its place, its comments, whether it is left open. -/
def SL (b : Nat) (s : ByteArray) (k : Nat) (cv : Value) (o : Bool) (w : World) : Prop :=
  w.heap[b]? = some (.cells #[.string s, .int .i64 (k : Int), cv, .bool o] 46 (0, 0))
theorem SL.c0 {b : Nat} {s : ByteArray} {k : Nat} {cv : Value} {o : Bool} {w : World} (h : SL b s k cv o w) : w.cell? ⟨b, 0, none⟩ = some (.string s) := by rw [Lib.cell_of_heap h]; rfl
theorem SL.c1 {b : Nat} {s : ByteArray} {k : Nat} {cv : Value} {o : Bool} {w : World} (h : SL b s k cv o w) : w.cell? ⟨b, 1, none⟩ = some (.int .i64 (k : Int)) := by rw [Lib.cell_of_heap h]; rfl
theorem SL.c2 {b : Nat} {s : ByteArray} {k : Nat} {cv : Value} {o : Bool} {w : World} (h : SL b s k cv o w) : w.cell? ⟨b, 2, none⟩ = some cv := by rw [Lib.cell_of_heap h]; rfl
theorem SL.c3 {b : Nat} {s : ByteArray} {k : Nat} {cv : Value} {o : Bool} {w : World} (h : SL b s k cv o w) : w.cell? ⟨b, 3, none⟩ = some (.bool o) := by rw [Lib.cell_of_heap h]; rfl
theorem SL.fz {b : Nat} {s : ByteArray} {k : Nat} {cv : Value} {o : Bool} {w : World} (h : SL b s k cv o w) (i : Nat) : w.frozen? ⟨b, i, none⟩ = false := Lib.frozen_of_heap h i
theorem SL.lt {b : Nat} {s : ByteArray} {k : Nat} {cv : Value} {o : Bool} {w : World} (h : SL b s k cv o w) : b < w.heap.size := by
  rcases Nat.lt_or_ge b w.heap.size with h' | h'
  · exact h'
  · unfold SL at h; simp [Array.getElem?_eq_none h'] at h
theorem SL.drewN {b : Nat} {s : ByteArray} {k : Nat} {cv : Value} {o : Bool} {w : World} (h : SL b s k cv o w) (n : Nat) : SL b s k cv o (w.drewN n) := h
theorem SL.setAt {b : Nat} {s : ByteArray} {k : Nat} {cv : Value} {o : Bool} {w : World} (h : SL b s k cv o w) (k' : Nat) : SL b s k' cv o (w.setCell ⟨b, 1, none⟩ (.int .i64 (k' : Int))) := by
  unfold SL at *
  simp [World.setCell, Array.getElem?_modify, h]
theorem SL.setOpen {b : Nat} {s : ByteArray} {k : Nat} {cv : Value} {o : Bool} {w : World} (h : SL b s k cv o w) (o' : Bool) : SL b s k cv o' (w.setCell ⟨b, 3, none⟩ (.bool o')) := by
  unfold SL at *
  simp [World.setCell, Array.getElem?_modify, h]
theorem SL.setComments {b : Nat} {s : ByteArray} {k : Nat} {cv : Value} {o : Bool} {w : World} (h : SL b s k cv o w) (cv' : Value) : SL b s k cv' o (w.setCell ⟨b, 2, none⟩ cv') := by
  unfold SL at *
  simp [World.setCell, Array.getElem?_modify, h]

/-! ### its place, as the code points that are still to come -/
/-- From byte k on the text is the code points l. -/
structure At (s : ByteArray) (k : Nat) (l : List Nat) : Prop where
  drop : s.data.toList.drop k = encs l
  le : k ≤ s.size
  cp : ∀ c ∈ l, Cp c
  hz : s.size ≤ 4294967296
/-- How many bytes the next code point has. -/
def wid : List Nat → Nat
  | [] => 0
  | c :: _ => (enc c).length
theorem At.size {s : ByteArray} {k : Nat} {l : List Nat} (h : At s k l) : k + (encs l).length = s.size := by
  have := congrArg List.length h.drop
  rw [List.length_drop] at this
  have e : s.data.toList.length = s.size := rfl
  have := h.le
  omega
theorem At.wle {s : ByteArray} {k : Nat} {l : List Nat} (h : At s k l) : k + wid l ≤ s.size := by
  have := h.size
  cases l with
  | nil => exact h.le
  | cons c t => rw [encs_cons, List.length_append] at this; show k + (enc c).length ≤ _; omega
theorem At.tail {s : ByteArray} {k : Nat} {l : List Nat} (h : At s k l) : At s (k + wid l) l.tail := by
  refine ⟨?_, h.wle, fun c hc => h.cp c (List.mem_of_mem_tail hc), h.hz⟩
  cases l with
  | nil => exact h.drop
  | cons c t =>
    show s.data.toList.drop (k + (enc c).length) = encs t
    rw [← List.drop_drop, h.drop, drop_encs]
theorem At.unique {s : ByteArray} {k k' : Nat} {l : List Nat} (h : At s k l) (h' : At s k' l) : k = k' := by
  have := h.size; have := h'.size; omega
theorem runeAt_at {s : ByteArray} {k : Nat} {l : List Nat} (h : At s k l) (w : World) :
    Calls Tryz.prog 39 #[.string s, .int .i64 k] w fun e w' => e = .returned (.tuple #[.int .i64 (cpAt l 0), .int .i64 (wid l : Nat)]) ∧ w = w' := by
  cases l with
  | nil => exact runeAt_stop s k w h.hz h.drop
  | cons c t => exact runeAt_cp s k w h.hz c t (h.cp c (by simp)) h.drop
theorem cpAt_drop (l : List Nat) (j i : Nat) : cpAt (l.drop i) j = cpAt l (i + j) := by unfold cpAt; rw [List.getElem?_drop]
theorem At.next {s : ByteArray} {k i : Nat} {l : List Nat} (h : At s k (l.drop i)) : ∃ n, wid (l.drop i) = n ∧ k + n ≤ s.size ∧ At s (k + n) (l.drop (i + 1)) :=
  ⟨_, rfl, h.wle, by have := h.tail; rwa [List.tail_drop] at this⟩
/-- The lexer b stands ahead of the code points l. -/
def SR (b : Nat) (s : ByteArray) (l : List Nat) (cv : Value) (o : Bool) (w : World) : Prop := ∃ k, At s k l ∧ SL b s k cv o w

set_option maxHeartbeats 2000000 in
set_option maxRecDepth 100000 in
theorem peekL (b : Nat) (s : ByteArray) (l : List Nat) (cv : Value) (o : Bool) (w : World) (h : SR b s l cv o w) (j : Nat) (hj : j ≤ 3) :
    Calls Tryz.prog 48 #[.pointer (some ⟨b, 0, none⟩), .int .i64 j] w fun e w' => e = .returned (.int .i64 (cpAt l j)) ∧ w' = w := by
  obtain ⟨k, hA, hL⟩ := h
  have c0 := hL.c0
  have c1 := hL.c1
  have hz := hA.hz
  have hk := hA.le
  have R := Lib.hid (fun k l (h : At s k l) w => runeAt_at h w)
  have START := Lib.hid (show At s k (l.drop 0) from hA)
  clear hL hA
  go_enter Tryz.func48, Tryz.ntmps48
  go_wp2
  go_loop [5, 15] (fun at_ i_ => ∃ (k' i : Nat), at_ = .int .i64 k' ∧ i_ = .int .i64 i ∧ k' ≤ s.size ∧ i ≤ j ∧ At s k' (l.drop i)) (fun _ i_ => j - (intOf i_).toNat)
  case atStart => exact ⟨k, 0, rfl, rfl, hk, Nat.zero_le _, START.out⟩
  case round =>
    obtain ⟨k', i, rfl, rfl, hk', hi, hA⟩ := hrel
    have C := Lib.hid (R.out _ _ hA)
    by_cases hij : i < j
    · obtain ⟨n, hn, hkn, hA'⟩ := hA.next
      rw [hn] at C
      have NX := Lib.hid hA'
      clear hA hA' hn
      go_wp2_with (go_at_call 39; refine (C.out _).mono ?_; rintro e w' ⟨rfl, rfl⟩)
      go_round
      case rel => exact ⟨k' + n, i + 1, by go_num, by go_num, hkn, hij, NX.out⟩
      case measure => simp [intOf]; omega
    · have hfin : cpAt (l.drop i) 0 = cpAt l j := by rw [cpAt_drop]; congr 1; omega
      rw [hfin] at C
      clear hA hfin
      go_wp2_with (go_at_call 39; refine (C.out _).mono ?_; rintro e w' ⟨rfl, rfl⟩)
      go_ret
      exact ⟨rfl, rfl⟩

set_option maxHeartbeats 2000000 in
set_option maxRecDepth 100000 in
theorem takeL (b : Nat) (s : ByteArray) (l : List Nat) (cv : Value) (o : Bool) (w : World) (h : SR b s l cv o w) :
    Calls Tryz.prog 49 #[.pointer (some ⟨b, 0, none⟩)] w fun e w' => e = .returned (.int .i64 (cpAt l 0)) ∧ SR b s l.tail cv o w' ∧ Fr b w w' := by
  obtain ⟨k, hA, hL⟩ := h
  have c0 := hL.c0
  have c1 := hL.c1
  have f1 := hL.fz 1
  have hz := hA.hz
  have hk := hA.le
  have C := Lib.hid (fun w => (runeAt_at hA w).mono fun _ _ ⟨he, hw⟩ => (⟨he, hw.symm⟩ : _ ∧ _))
  obtain ⟨n, hn⟩ : ∃ n, wid l = n := ⟨_, rfl⟩
  have hw := hA.wle
  have ht := hA.tail
  rw [hn] at C hw ht
  have T := Lib.hid ht
  have LL := Lib.hid hL
  clear hL hA ht hn
  go_enter Tryz.func49, Tryz.ntmps49
  go_wp2_with fail
  go_quiet ((go_at_call 39; exact Calls.quiet_of_same (C.out _)))
  go_wp2
  go_ret
  refine ⟨rfl, ⟨k + n, T.out, ?_⟩, (Fr.drewN b nq w).trans (Fr.setCell _ 1 _)⟩
  have := (LL.out.drewN nq).setAt (k + n)
  rwa [Int.natCast_add] at this
end Go.Proofs.YtmgkccnfhkcncaaGreatDoor

namespace Go.Proofs.YtmgkccnfhkcncaaGreatDoor
open Go.RowKit

theorem conv_cells (w : World) (c : Nat) (C : List Value) (hC : Lib.runeCells (c : Int) = C) (n : Nat) (hn : C.length = n) :
    (convert 40 9 (.slice (some ⟨w.heap.size, 0, none⟩) n n)).run Tryz.prog (w.alloc (.cells C.toArray 5)) = .ok (.string (strOf [c])) (w.alloc (.cells C.toArray 5)) := by
  have hs : (strOf [c]).size = n := by
    rw [← hn, ← hC]
    show (encs [c]).length = _
    rw [encs_one]; unfold enc Lib.encodeRune Lib.runeCells; simp
  have hb : Lib.Bytes (w.alloc (.cells C.toArray 5)) w.heap.size 0 (strOf [c]) := by
    intro i hi
    rw [Nat.zero_add]
    have e1 : (w.alloc (.cells C.toArray 5)).cell? ⟨w.heap.size, i, none⟩ = C.toArray[i]? := World.cell?_alloc_mark w _ _ _ i
    rw [e1, ← hC]
    have hi' : i < (Lib.encodeRuneZ (c : Int)).length := by
      rw [hs, ← hn, ← hC] at hi
      unfold Lib.runeCells at hi; simpa using hi
    have e2 : (strOf [c])[i].toNat = ((Lib.encodeRuneZ (c : Int))[i]).toNat := by
      have hx := Lib.encodeRuneZ_byte (c : Int) _ (List.getElem_mem hi')
      have : (strOf [c])[i] = ((Lib.encodeRuneZ (c : Int))[i]).toNat.toUInt8 := by
        show (encs [c]).toArray[i] = _
        have : (encs [c]) = (Lib.encodeRuneZ (c : Int)).map fun x => x.toNat.toUInt8 := by rw [encs_one]; rfl
        simp [this]
      rw [this, byte_toNat _ hx.1 hx.2]
    have hx := Lib.encodeRuneZ_byte (c : Int) _ (List.getElem_mem hi')
    rw [e2]
    unfold Lib.runeCells
    simp only [List.getElem?_toArray, List.getElem?_map, List.getElem?_eq_getElem hi', Option.map_some]
    congr 2; omega
  have := Lib.run_convert_whole (P := Tryz.prog) (w.alloc (.cells C.toArray 5)) 40 5 9 Tryz.underlying40 Tryz.underlying5 Tryz.underlying9 w.heap.size 0 (strOf [c]) hb n
  rwa [hs] at this

theorem i64_or5 {x y : Int} (hx₀ : 0 ≤ x) (hx : x % 32 = 0) (hx₁ : x < 9223372036854775808) (h₀ : 0 ≤ y) (h₁ : y < 32) : bits .or .i64 x y = x + y :=
  bits_join .i64 63 (by decide) wraps_i64 5 x y hx₀ (by simpa using hx) (by simpa using hx₁) h₀ (by simpa using h₁) (by omega)
theorem i64_or4 {x y : Int} (hx₀ : 0 ≤ x) (hx : x % 16 = 0) (hx₁ : x < 9223372036854775808) (h₀ : 0 ≤ y) (h₁ : y < 16) : bits .or .i64 x y = x + y :=
  bits_join .i64 63 (by decide) wraps_i64 4 x y hx₀ (by simpa using hx) (by simpa using hx₁) h₀ (by simpa using h₁) (by omega)

set_option maxHeartbeats 2000000 in
set_option maxRecDepth 1000000 in
theorem encoded1 (c : Nat) (w : World) (h : c < 128) :
    Calls Tryz.prog 67 #[.int .i64 c] w fun e w' => e = .returned (.string (strOf [c])) ∧ Below w.heap.size w w' := by
  have CV := conv_cells w c [.int .u8 (c : Int)] (by unfold Lib.runeCells; rw [Lib.encodeRuneZ_one (by omega) (by omega)]; rfl) 1 rfl
  go_enter Tryz.func67, Tryz.ntmps67
  go_wp2
  go_ret
  exact ⟨rfl, (Below.refl _ _).alloc (Nat.le_refl _) _⟩
set_option maxHeartbeats 2000000 in
set_option maxRecDepth 1000000 in
theorem encoded2 (c : Nat) (w : World) (h0 : 128 ≤ c) (h : c < 2048) :
    Calls Tryz.prog 67 #[.int .i64 c] w fun e w' => e = .returned (.string (strOf [c])) ∧ Below w.heap.size w w' := by
  have CV := conv_cells w c [.int .u8 (192 + (c : Int) / 64), .int .u8 (128 + (c : Int) % 64)] (by unfold Lib.runeCells; rw [Lib.encodeRuneZ_two (by omega) (by omega)]; rfl) 2 rfl
  have m1 : bits BinOp.and .i64 (c : Int) 63 = (c : Int) % 64 := i64_and63 (by omega) (by omega)
  have o1 : bits BinOp.or .i64 192 ((c : Int) / 64) = 192 + (c : Int) / 64 := i64_or6 (by omega) (by omega) (by omega) (by omega) (by omega)
  have o2 : bits BinOp.or .i64 128 ((c : Int) % 64) = 128 + (c : Int) % 64 := i64_or6 (by omega) (by omega) (by omega) (by omega) (by omega)
  have r1 : (192 + (c : Int) / 64) % 256 = 192 + (c : Int) / 64 := by omega
  have r2 : (128 + (c : Int) % 64) % 256 = 128 + (c : Int) % 64 := by omega
  go_enter Tryz.func67, Tryz.ntmps67
  go_wp2
  go_ret
  exact ⟨rfl, (Below.refl _ _).alloc (Nat.le_refl _) _⟩
set_option maxHeartbeats 2000000 in
set_option maxRecDepth 1000000 in
theorem encoded3 (c : Nat) (w : World) (h0 : 2048 ≤ c) (h : c ≤ 65535) (hc : c < 55296 ∨ 57343 < c) :
    Calls Tryz.prog 67 #[.int .i64 c] w fun e w' => e = .returned (.string (strOf [c])) ∧ Below w.heap.size w w' := by
  have CV := conv_cells w c [.int .u8 (224 + (c : Int) / 4096), .int .u8 (128 + (c : Int) / 64 % 64), .int .u8 (128 + (c : Int) % 64)] (by unfold Lib.runeCells; rw [Lib.encodeRuneZ_three (by omega)]; rfl) 3 rfl
  have m1 : bits BinOp.and .i64 (c : Int) 63 = (c : Int) % 64 := i64_and63 (by omega) (by omega)
  have m2 : bits BinOp.and .i64 ((c : Int) / 64) 63 = (c : Int) / 64 % 64 := i64_and63 (by omega) (by omega)
  have o1 : bits BinOp.or .i64 224 ((c : Int) / 4096) = 224 + (c : Int) / 4096 := i64_or5 (by omega) (by omega) (by omega) (by omega) (by omega)
  have o2 : bits BinOp.or .i64 128 ((c : Int) / 64 % 64) = 128 + (c : Int) / 64 % 64 := i64_or6 (by omega) (by omega) (by omega) (by omega) (by omega)
  have o3 : bits BinOp.or .i64 128 ((c : Int) % 64) = 128 + (c : Int) % 64 := i64_or6 (by omega) (by omega) (by omega) (by omega) (by omega)
  have r1 : (224 + (c : Int) / 4096) % 256 = 224 + (c : Int) / 4096 := by omega
  have r2 : (128 + (c : Int) / 64 % 64) % 256 = 128 + (c : Int) / 64 % 64 := by omega
  have r3 : (128 + (c : Int) % 64) % 256 = 128 + (c : Int) % 64 := by omega
  clear hc
  go_enter Tryz.func67, Tryz.ntmps67
  go_wp2
  go_ret
  exact ⟨rfl, (Below.refl _ _).alloc (Nat.le_refl _) _⟩
set_option maxHeartbeats 2000000 in
set_option maxRecDepth 1000000 in
theorem encoded4 (c : Nat) (w : World) (h0 : 65536 ≤ c) (h : c ≤ 1114111) :
    Calls Tryz.prog 67 #[.int .i64 c] w fun e w' => e = .returned (.string (strOf [c])) ∧ Below w.heap.size w w' := by
  have CV := conv_cells w c [.int .u8 (240 + (c : Int) / 262144), .int .u8 (128 + (c : Int) / 4096 % 64), .int .u8 (128 + (c : Int) / 64 % 64), .int .u8 (128 + (c : Int) % 64)] (by unfold Lib.runeCells; rw [Lib.encodeRuneZ_four (by omega) (by omega)]; rfl) 4 rfl
  have m1 : bits BinOp.and .i64 (c : Int) 63 = (c : Int) % 64 := i64_and63 (by omega) (by omega)
  have m2 : bits BinOp.and .i64 ((c : Int) / 64) 63 = (c : Int) / 64 % 64 := i64_and63 (by omega) (by omega)
  have m3 : bits BinOp.and .i64 ((c : Int) / 4096) 63 = (c : Int) / 4096 % 64 := i64_and63 (by omega) (by omega)
  have o1 : bits BinOp.or .i64 240 ((c : Int) / 262144) = 240 + (c : Int) / 262144 := i64_or4 (by omega) (by omega) (by omega) (by omega) (by omega)
  have o2 : bits BinOp.or .i64 128 ((c : Int) / 64 % 64) = 128 + (c : Int) / 64 % 64 := i64_or6 (by omega) (by omega) (by omega) (by omega) (by omega)
  have o3 : bits BinOp.or .i64 128 ((c : Int) % 64) = 128 + (c : Int) % 64 := i64_or6 (by omega) (by omega) (by omega) (by omega) (by omega)
  have o4 : bits BinOp.or .i64 128 ((c : Int) / 4096 % 64) = 128 + (c : Int) / 4096 % 64 := i64_or6 (by omega) (by omega) (by omega) (by omega) (by omega)
  have r1 : (240 + (c : Int) / 262144) % 256 = 240 + (c : Int) / 262144 := by omega
  have r2 : (128 + (c : Int) / 64 % 64) % 256 = 128 + (c : Int) / 64 % 64 := by omega
  have r3 : (128 + (c : Int) % 64) % 256 = 128 + (c : Int) % 64 := by omega
  have r4 : (128 + (c : Int) / 4096 % 64) % 256 = 128 + (c : Int) / 4096 % 64 := by omega
  go_enter Tryz.func67, Tryz.ntmps67
  go_wp2
  go_ret
  exact ⟨rfl, (Below.refl _ _).alloc (Nat.le_refl _) _⟩
theorem encodedC (c : Nat) (w : World) (h : Cp c) :
    Calls Tryz.prog 67 #[.int .i64 c] w fun e w' => e = .returned (.string (strOf [c])) ∧ Below w.heap.size w w' := by
  unfold Cp at h
  by_cases h1 : c < 128
  · exact encoded1 c w h1
  by_cases h2 : c < 2048
  · exact encoded2 c w (by omega) h2
  by_cases h3 : c ≤ 65535
  · exact encoded3 c w (by omega) h3 (by omega)
  · exact encoded4 c w (by omega) (by omega)
end Go.Proofs.YtmgkccnfhkcncaaGreatDoor

namespace Go.Proofs.YtmgkccnfhkcncaaGreatDoor
open Go.RowKit

theorem SR.below {b : Nat} {s : ByteArray} {l : List Nat} {cv : Value} {o : Bool} {w w' : World} (h : SR b s l cv o w) (hb : Below w.heap.size w w') : SR b s l cv o w' := by
  obtain ⟨k, hA, hL⟩ := h
  refine ⟨k, hA, ?_⟩
  have := hL.lt
  unfold SL at *
  rw [hb.block b this, hL]
theorem SR.open' {b : Nat} {s : ByteArray} {l : List Nat} {cv : Value} {o : Bool} {w : World} (h : SR b s l cv o w) (o' : Bool) : SR b s l cv o' (w.setCell ⟨b, 3, none⟩ (.bool o')) := by
  obtain ⟨k, hA, hL⟩ := h
  exact ⟨k, hA, hL.setOpen o'⟩
theorem SR.fz {b : Nat} {s : ByteArray} {l : List Nat} {cv : Value} {o : Bool} {w : World} (h : SR b s l cv o w) (i : Nat) : w.frozen? ⟨b, i, none⟩ = false := by
  obtain ⟨k, hA, hL⟩ := h
  exact hL.fz i
theorem SR.c3 {b : Nat} {s : ByteArray} {l : List Nat} {cv : Value} {o : Bool} {w : World} (h : SR b s l cv o w) : w.cell? ⟨b, 3, none⟩ = some (.bool o) := by
  obtain ⟨k, hA, hL⟩ := h
  exact hL.c3
theorem SR.cp {b : Nat} {s : ByteArray} {l : List Nat} {cv : Value} {o : Bool} {w : World} (h : SR b s l cv o w) : ∀ c ∈ l, Cp c := by
  obtain ⟨k, hA, hL⟩ := h
  exact hA.cp
/-- How many bytes the lexer b has still to come. -/
def leftOf (b : Nat) (s : ByteArray) (w : World) : Nat := match w.cell? ⟨b, 1, none⟩ with | some v => s.size - (intOf v).toNat | none => 0
theorem SR.left {b : Nat} {s : ByteArray} {l : List Nat} {cv : Value} {o : Bool} {w : World} (h : SR b s l cv o w) : leftOf b s w = (encs l).length := by
  obtain ⟨k, hA, hL⟩ := h
  unfold leftOf
  rw [hL.c1]
  have := hA.size
  show s.size - (intOf (.int .i64 (k : Int))).toNat = _
  simp [intOf]; omega
theorem encs_lt (c : Nat) (t : List Nat) : (encs t).length < (encs (c :: t)).length := by
  rw [encs_cons, List.length_append]; have := enc_len c; omega
theorem encs_cons_len (c : Nat) (t : List Nat) : (encs (c :: t)).length = (enc c).length + (encs t).length := by rw [encs_cons, List.length_append]

theorem peekZ (z : Int) (b : Nat) (s : ByteArray) (l : List Nat) (cv : Value) (o : Bool) (w : World) (h : SR b s l cv o w) (j : Nat) (hz : z = (j : Int)) (hj : j ≤ 3) :
    Calls Tryz.prog 48 #[.pointer (some ⟨b, 0, none⟩), .int .i64 z] w fun e w' => e = .returned (.int .i64 (cpAt l j)) ∧ w' = w := by subst hz; exact peekL b s l cv o w h j hj
theorem peek0 (b : Nat) (s : ByteArray) (l : List Nat) (cv : Value) (o : Bool) (w : World) (h : SR b s l cv o w) :
    Calls Tryz.prog 48 #[.pointer (some ⟨b, 0, none⟩), .int .i64 0] w fun e w' => e = .returned (.int .i64 (cpAt l 0)) ∧ w' = w := peekZ 0 b s l cv o w h 0 rfl (by omega)
theorem peek1 (b : Nat) (s : ByteArray) (l : List Nat) (cv : Value) (o : Bool) (w : World) (h : SR b s l cv o w) :
    Calls Tryz.prog 48 #[.pointer (some ⟨b, 0, none⟩), .int .i64 1] w fun e w' => e = .returned (.int .i64 (cpAt l 1)) ∧ w' = w := peekZ 1 b s l cv o w h 1 rfl (by omega)
theorem peek2 (b : Nat) (s : ByteArray) (l : List Nat) (cv : Value) (o : Bool) (w : World) (h : SR b s l cv o w) :
    Calls Tryz.prog 48 #[.pointer (some ⟨b, 0, none⟩), .int .i64 2] w fun e w' => e = .returned (.int .i64 (cpAt l 2)) ∧ w' = w := peekZ 2 b s l cv o w h 2 rfl (by omega)
theorem peek3 (b : Nat) (s : ByteArray) (l : List Nat) (cv : Value) (o : Bool) (w : World) (h : SR b s l cv o w) :
    Calls Tryz.prog 48 #[.pointer (some ⟨b, 0, none⟩), .int .i64 3] w fun e w' => e = .returned (.int .i64 (cpAt l 3)) ∧ w' = w := peekZ 3 b s l cv o w h 3 rfl (by omega)
theorem take_cons (b : Nat) (s : ByteArray) (c : Nat) (t : List Nat) (cv : Value) (o : Bool) (w : World) (h : SR b s (c :: t) cv o w) :
    Calls Tryz.prog 49 #[.pointer (some ⟨b, 0, none⟩)] w fun e w' => e = .returned (.int .i64 (c : Int)) ∧ SR b s t cv o w' ∧ Fr b w w' := takeL b s (c :: t) cv o w h
theorem take_nil (b : Nat) (s : ByteArray) (cv : Value) (o : Bool) (w : World) (h : SR b s [] cv o w) :
    Calls Tryz.prog 49 #[.pointer (some ⟨b, 0, none⟩)] w fun e w' => e = .returned (.int .i64 (-1)) ∧ SR b s [] cv o w' ∧ Fr b w w' := takeL b s [] cv o w h

set_option maxHeartbeats 2000000 in
set_option maxRecDepth 100000 in
theorem newlineL (b : Nat) (s : ByteArray) (l : List Nat) (cv : Value) (o : Bool) (w : World) (h : SR b s l cv o w) :
    Calls Tryz.prog 66 #[.pointer (some ⟨b, 0, none⟩)] w fun e w' => e = .returned (.tuple #[]) ∧ SR b s (nlS l) cv o w' ∧ Fr b w w' := by
  cases l with
  | nil =>
    go_enter Tryz.func66, Tryz.ntmps66
    go_wp2_with fail
    refine (take_nil b s cv o w h).mono ?_
    rintro e w1 ⟨rfl, h1, f1⟩
    go_wp2
    go_end0
    exact ⟨rfl, h1, f1⟩
  | cons c t =>
    by_cases hc : c = 13
    · subst hc
      cases t with
      | nil =>
        go_enter Tryz.func66, Tryz.ntmps66
        go_wp2_with fail
        refine (take_cons b s 13 [] cv o w h).mono ?_
        rintro e w1 ⟨rfl, h1, f1⟩
        go_wp2_with fail
        refine (peek0 b s [] cv o w1 h1).mono ?_
        rintro e w' ⟨rfl, rfl⟩
        go_wp2
        go_end0
        exact ⟨rfl, h1, f1⟩
      | cons d u =>
        have P0 := Lib.hid (fun w h => peek0 b s (d :: u) cv o w h)
        rw [cpAt_zero_cons] at P0
        by_cases hd : d = 10
        · subst hd
          go_enter Tryz.func66, Tryz.ntmps66
          go_wp2_with fail
          refine (take_cons b s 13 (10 :: u) cv o w h).mono ?_
          rintro e w1 ⟨rfl, h1, f1⟩
          go_wp2_with fail
          refine (P0.out w1 h1).mono ?_
          rintro e w' ⟨rfl, rfl⟩
          go_wp2_with fail
          refine (take_cons b s 10 u cv o _ h1).mono ?_
          rintro e w2 ⟨rfl, h2, f2⟩
          go_wp2
          go_end0
          exact ⟨rfl, h2, f1.trans f2⟩
        · have t1 : ((d : Int) == 10) = false := beq_eq_false_iff_ne.2 (by omega)
          have hfin : nlS (13 :: d :: u) = d :: u := by rw [nlS_cons, if_pos rfl, dropLfC_cons, if_neg hd]
          rw [hfin]
          clear hfin hd
          go_enter Tryz.func66, Tryz.ntmps66
          go_wp2_with fail
          refine (take_cons b s 13 (d :: u) cv o w h).mono ?_
          rintro e w1 ⟨rfl, h1, f1⟩
          go_wp2_with fail
          refine (P0.out w1 h1).mono ?_
          rintro e w' ⟨rfl, rfl⟩
          go_wp2
          go_end0
          exact ⟨rfl, h1, f1⟩
    · have t1 : ((c : Int) == 13) = false := beq_eq_false_iff_ne.2 (by omega)
      have hfin : nlS (c :: t) = t := by rw [nlS_cons, if_neg hc]
      rw [hfin]
      clear hfin hc
      go_enter Tryz.func66, Tryz.ntmps66
      go_wp2_with fail
      refine (take_cons b s c t cv o w h).mono ?_
      rintro e w1 ⟨rfl, h1, f1⟩
      go_wp2
      go_end0
      exact ⟨rfl, h1, f1⟩

/-- The lexer b stands ahead of what F makes the same of as of l; nothing else turned. -/
def FRel {α : Type} (F : List Nat → α) (b : Nat) (s : ByteArray) (l : List Nat) (cv : Value) (o : Bool) (w0 w : World) : Prop := ∃ r, SR b s r cv o w ∧ Fr b w0 w ∧ F r = F l

set_option maxHeartbeats 2000000 in
set_option maxRecDepth 100000 in
theorem spacesL (b : Nat) (s : ByteArray) (l : List Nat) (cv : Value) (o : Bool) (w : World) (h : SR b s l cv o w) :
    Calls Tryz.prog 50 #[.pointer (some ⟨b, 0, none⟩)] w fun e w' => e = .returned (.tuple #[]) ∧ SR b s (spS l) cv o w' ∧ Fr b w w' := by
  have H := Lib.hid (show FRel spS b s l cv o w w from ⟨l, h, Fr.refl b w, rfl⟩)
  have P := Lib.hid (fun l w h => peek0 b s l cv o w h)
  have K := Lib.hid (fun c t w h => take_cons b s c t cv o w h)
  clear h
  go_enter Tryz.func50, Tryz.ntmps50
  go_wp2_with fail
  go_loopw [] (fun wr => FRel spS b s l cv o w wr) (fun wr => leftOf b s wr)
  case atStart => exact H.out
  case round =>
    obtain ⟨r, hr, hf, hF⟩ := hrel
    cases r with
    | nil =>
      have S := Lib.hid (fun w => specSpace (-1) w)
      go_wp2_with fail
      refine (P.out _ _ hr).mono ?_
      rintro e w' ⟨rfl, rfl⟩
      go_wp2_with (go_at_call 45; refine (S.out _).mono ?_; rintro e w' ⟨rfl, rfl⟩)
      go_end0
      exact ⟨rfl, by rw [← hF]; exact hr, hf⟩
    | cons c t =>
      have S := Lib.hid (fun w => specSpace (c : Int) w)
      rw [sp_nat] at S
      have P0 := Lib.hid (P.out (c :: t) _ hr)
      rw [cpAt_zero_cons] at P0
      rw [spS_cons] at hF
      cases hc : isWs c with
      | true =>
        rw [hc] at S hF
        rw [if_pos rfl] at hF
        go_wp2_with fail
        refine (P0.out).mono ?_
        rintro e w' ⟨rfl, rfl⟩
        go_wp2_with (go_at_call 45; refine (S.out _).mono ?_; rintro e w' ⟨rfl, rfl⟩)
        refine (K.out c t _ hr).mono ?_
        rintro e w1 ⟨rfl, h1, f1⟩
        go_wp2_with fail
        go_roundw
        case rel => exact ⟨t, h1, hf.trans f1, hF⟩
        case measure => rw [h1.left, hr.left]; exact encs_lt c t
      | false =>
        rw [hc] at S hF
        rw [if_neg (by decide)] at hF
        go_wp2_with fail
        refine (P0.out).mono ?_
        rintro e w' ⟨rfl, rfl⟩
        go_wp2_with (go_at_call 45; refine (S.out _).mono ?_; rintro e w' ⟨rfl, rfl⟩)
        go_end0
        exact ⟨rfl, by rw [← hF]; exact hr, hf⟩
set_option maxHeartbeats 2000000 in
set_option maxRecDepth 100000 in
theorem digitsL (b : Nat) (s : ByteArray) (l : List Nat) (cv : Value) (o : Bool) (w : World) (h : SR b s l cv o w) :
    Calls Tryz.prog 69 #[.pointer (some ⟨b, 0, none⟩)] w fun e w' => e = .returned (.tuple #[]) ∧ SR b s (dgS l) cv o w' ∧ Fr b w w' := by
  have H := Lib.hid (show FRel dgS b s l cv o w w from ⟨l, h, Fr.refl b w, rfl⟩)
  have P := Lib.hid (fun l w h => peek0 b s l cv o w h)
  have K := Lib.hid (fun c t w h => take_cons b s c t cv o w h)
  clear h
  go_enter Tryz.func69, Tryz.ntmps69
  go_wp2_with fail
  go_loopw [] (fun wr => FRel dgS b s l cv o w wr) (fun wr => leftOf b s wr)
  case atStart => exact H.out
  case round =>
    obtain ⟨r, hr, hf, hF⟩ := hrel
    cases r with
    | nil =>
      have S := Lib.hid (fun w => specDigit (-1) w)
      go_wp2_with fail
      refine (P.out _ _ hr).mono ?_
      rintro e w' ⟨rfl, rfl⟩
      go_wp2_with (go_at_call 41; refine (S.out _).mono ?_; rintro e w' ⟨rfl, rfl⟩)
      go_end0
      exact ⟨rfl, by rw [← hF]; exact hr, hf⟩
    | cons c t =>
      have S := Lib.hid (fun w => specDigit (c : Int) w)
      rw [dg_nat] at S
      have P0 := Lib.hid (P.out (c :: t) _ hr)
      rw [cpAt_zero_cons] at P0
      rw [dgS_cons] at hF
      cases hc : isDg c with
      | true =>
        rw [hc] at S hF
        rw [if_pos rfl] at hF
        go_wp2_with fail
        refine (P0.out).mono ?_
        rintro e w' ⟨rfl, rfl⟩
        go_wp2_with (go_at_call 41; refine (S.out _).mono ?_; rintro e w' ⟨rfl, rfl⟩)
        refine (K.out c t _ hr).mono ?_
        rintro e w1 ⟨rfl, h1, f1⟩
        go_wp2_with fail
        go_roundw
        case rel => exact ⟨t, h1, hf.trans f1, hF⟩
        case measure => rw [h1.left, hr.left]; exact encs_lt c t
      | false =>
        rw [hc] at S hF
        rw [if_neg (by decide)] at hF
        go_wp2_with fail
        refine (P0.out).mono ?_
        rintro e w' ⟨rfl, rfl⟩
        go_wp2_with (go_at_call 41; refine (S.out _).mono ?_; rintro e w' ⟨rfl, rfl⟩)
        go_end0
        exact ⟨rfl, by rw [← hF]; exact hr, hf⟩

set_option maxHeartbeats 1000000 in
theorem specIdentifies (a b c : Int) (w : World) : Calls Tryz.prog 53 #[.int .i64 a, .int .i64 b, .int .i64 c] w fun e w' => e = .returned (.bool (identZ a b c)) ∧ w = w' := by
  by_cases h : a = 45
  · subst h
    have hfin : identZ 45 b c = (ssB b || decide (b = 45) || escZ b c) := rfl
    rw [hfin]
    have cS := specStarts b
    have cE := specEscapes b c
    obtain ⟨s, hs⟩ : ∃ s, ssB b = s := ⟨_, rfl⟩
    obtain ⟨x, hx⟩ : ∃ x, escZ b c = x := ⟨_, rfl⟩
    rw [hs] at cS ⊢
    rw [hx] at cE ⊢
    have S := Lib.hid cS
    have E := Lib.hid cE
    clear hfin cS cE hs hx
    by_cases hb : b = 45
    · subst hb
      rw [decide_eq_true rfl]
      cases s <;> cases x
      all_goals
        go_enter Tryz.func53, Tryz.ntmps53
        go_wp2_with (first | (go_at_call 63; refine (S.out _).mono ?_; rintro e w' ⟨rfl, rfl⟩) | (go_at_call 52; refine (E.out _).mono ?_; rintro e w' ⟨rfl, rfl⟩))
        go_ret
        exact ⟨rfl, rfl⟩
    · have t1 : ((b : Int) == 45) = false := beq_eq_false_iff_ne.2 hb
      rw [decide_eq_false hb]
      clear hb
      cases s <;> cases x
      all_goals
        go_enter Tryz.func53, Tryz.ntmps53
        go_wp2_with (first | (go_at_call 63; refine (S.out _).mono ?_; rintro e w' ⟨rfl, rfl⟩) | (go_at_call 52; refine (E.out _).mono ?_; rintro e w' ⟨rfl, rfl⟩))
        go_ret
        exact ⟨rfl, rfl⟩
  · have hfin : identZ a b c = (ssB a || escZ a b) := if_neg h
    rw [hfin]
    have t1 : ((a : Int) == 45) = false := beq_eq_false_iff_ne.2 h
    have cS := specStarts a
    have cE := specEscapes a b
    obtain ⟨s, hs⟩ : ∃ s, ssB a = s := ⟨_, rfl⟩
    obtain ⟨x, hx⟩ : ∃ x, escZ a b = x := ⟨_, rfl⟩
    rw [hs] at cS ⊢
    rw [hx] at cE ⊢
    have S := Lib.hid cS
    have E := Lib.hid cE
    clear hfin cS cE hs hx h
    cases s <;> cases x
    all_goals
      go_enter Tryz.func53, Tryz.ntmps53
      go_wp2_with (first | (go_at_call 63; refine (S.out _).mono ?_; rintro e w' ⟨rfl, rfl⟩) | (go_at_call 52; refine (E.out _).mono ?_; rintro e w' ⟨rfl, rfl⟩))
      go_ret
      exact ⟨rfl, rfl⟩
end Go.Proofs.YtmgkccnfhkcncaaGreatDoor
