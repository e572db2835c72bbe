/-
  A frame: all blocks that stood, but one, stand as they stood.
-/
import Derived.Test.YtmgkccnfhkcncaaGreatDoorUnit
namespace Go.Proofs.YtmgkccnfhkcncaaGreatDoor
open Go.RowKit

/-! ### a frame: all blocks that stood, but block b, stand as they stood -/
structure Fr (b : Nat) (w w' : World) : Prop where
  os : w'.os = w.os
  tape : w'.tape = w.tape
  output : w'.output = w.output
  size : w.heap.size ≤ w'.heap.size
  block : ∀ k, k < w.heap.size → k ≠ b → w'.heap[k]? = w.heap[k]?
theorem Fr.refl (b : Nat) (w : World) : Fr b w w := ⟨rfl, rfl, rfl, Nat.le_refl _, fun _ _ _ => rfl⟩
theorem Fr.trans {b : Nat} {u v w : World} (h : Fr b u v) (k : Fr b v w) : Fr b u w :=
  ⟨k.os.trans h.os, k.tape.trans h.tape, k.output.trans h.output, Nat.le_trans h.size k.size, fun i hi hb => (k.block i (Nat.lt_of_lt_of_le hi h.size) hb).trans (h.block i hi hb)⟩
theorem Fr.of {b : Nat} {w w' : World} (h : Below w.heap.size w w') : Fr b w w' := ⟨h.os, h.tape, h.output, h.size, fun k hk _ => h.block k hk⟩
theorem Fr.below {b B : Nat} {w w' : World} (h : Fr b w w') (hB : B ≤ b) (hBw : B ≤ w.heap.size) : Below B w w' :=
  ⟨h.os, h.tape, h.output, h.size, fun k hk => h.block k (Nat.lt_of_lt_of_le hk hBw) (by omega)⟩
theorem Fr.drewN (b n : Nat) (w : World) : Fr b w (w.drewN n) := Fr.of (below_draws _ _ _)
theorem Fr.setCell {b : Nat} (w : World) (o : Nat) (v : Value) : Fr b w (w.setCell ⟨b, o, none⟩ v) := by
  have h := (Below.refl 0 w).setCell (p := ⟨b, o, none⟩) (Nat.zero_le _) v
  exact ⟨h.os, h.tape, h.output, h.size, fun k _ hk => Below.heap_setCell w ⟨b, o, none⟩ v k hk⟩
theorem Fr.cell {b : Nat} {w w' : World} (h : Fr b w w') {p : Addr} (hp : p.block < w.heap.size) (hb : p.block ≠ b) : w'.cell? p = w.cell? p := World.cell?_of_block (w := w) (h.block p.block hp hb)
theorem Fr.frozen {b : Nat} {w w' : World} (h : Fr b w w') {p : Addr} (hp : p.block < w.heap.size) (hb : p.block ≠ b) : w'.frozen? p = w.frozen? p := World.frozen?_of_block (w := w) (h.block p.block hp hb)

theorem Fr.alloc {b : Nat} {w w' : World} (h : Fr b w w') (o : Obj) : Fr b w (w'.alloc o) :=
  ⟨h.os, h.tape, h.output, Nat.le_trans h.size (by simp), fun k hk hb => (Below.heap_alloc w' o k (Nat.lt_of_lt_of_le hk h.size)).trans (h.block k hk hb)⟩
theorem Fr.far {b : Nat} {w w' : World} (h : Fr b w w') {p : Addr} (hp : w.heap.size ≤ p.block) (v : Value) : Fr b w (w'.setCell p v) :=
  ⟨h.os, h.tape, h.output, by simpa [World.setCell] using h.size, fun k hk hb => (Below.heap_setCell w' p v k (by omega)).trans (h.block k hk hb)⟩
/-- What a call does to the lexer's world, where the caller has made its zero token first. -/
theorem Fr.made {b : Nat} {w w' : World} {x : Obj} (f : Fr b (w.alloc x) w') : Fr b w w' := (Fr.of ((Below.refl _ _).alloc (Nat.le_refl _) _)).trans f

end Go.Proofs.YtmgkccnfhkcncaaGreatDoor
