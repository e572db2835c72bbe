/-
  What the reference's lexer appends to: a row of its own, and what stays as it was.
-/
import Derived.Test.YtmgkccnfhkcncaaDoorSpecNd
import Derived.Test.YtmgkccnfhkcncaaDoorMathK
import Derived.Deep.AppendLies
namespace Go.Proofs.YtmgkccnfhkcncaaDoor
open Go.RowKit

/-- All blocks that stood, but block b and a row, stand as they stood. -/
structure Fc (b : Nat) (row : Option Nat) (w w' : World) : Prop where
  os : w'.os = w.os
  tape : w'.tape = w.tape
  output : w'.output = w.output
  size : w.heap.size ≤ w'.heap.size
  block : ∀ k, k < w.heap.size → k ≠ b → some k ≠ row → w'.heap[k]? = w.heap[k]?
theorem Fr.fc {b : Nat} {w w' : World} (h : Fr b w w') (row : Option Nat) : Fc b row w w' := ⟨h.os, h.tape, h.output, h.size, fun k hk hb _ => h.block k hk hb⟩
theorem Fc.grown {w w' : World} {row : Option Nat} (h : w.grownBy w' row) (b : Nat) : Fc b row w w' := ⟨h.os, h.tape, h.output, h.size, fun k hk _ hr => h.block k hk hr⟩
theorem Fc.refl (b : Nat) (row : Option Nat) (w : World) : Fc b row w w := (Fr.refl b w).fc row
/-- The row as it was, or one that was made since. -/
def NewRow (w : World) (r r' : Option Nat) : Prop := r' = r ∨ ∃ g, r' = some g ∧ w.heap.size ≤ g
theorem NewRow.refl (w : World) (r : Option Nat) : NewRow w r r := Or.inl rfl
theorem NewRow.trans {u v : World} {r r' r'' : Option Nat} (h : NewRow u r r') (k : NewRow v r' r'') (hs : u.heap.size ≤ v.heap.size) : NewRow u r r'' := by
  rcases k with rfl | ⟨g, rfl, hg⟩
  · exact h
  · exact Or.inr ⟨g, rfl, Nat.le_trans hs hg⟩
theorem Fc.trans {b : Nat} {r r' : Option Nat} {u v w : World} (h : Fc b r u v) (hr : NewRow u r r') (k : Fc b r' v w) : Fc b r u w :=
  ⟨k.os.trans h.os, k.tape.trans h.tape, k.output.trans h.output, Nat.le_trans h.size k.size, fun i hi hb hne =>
    (k.block i (Nat.lt_of_lt_of_le hi h.size) hb (by
      rcases hr with rfl | ⟨g, rfl, hg⟩
      · exact hne
      · intro e; injection e with e; omega)).trans (h.block i hi hb hne)⟩
theorem Fc.fr {b : Nat} {r : Option Nat} {u v w : World} (h : Fc b r u v) (k : Fr b v w) : Fc b r u w := h.trans (NewRow.refl _ _) (k.fc r)
theorem Fc.below {b B : Nat} {row : Option Nat} {w w' : World} (h : Fc b row w w') (hB : B ≤ b) (hBw : B ≤ w.heap.size) (hr : ∀ k, row = some k → B ≤ k) : Below B w w' :=
  ⟨h.os, h.tape, h.output, h.size, fun k hk => h.block k (Nat.lt_of_lt_of_le hk hBw) (by omega) (by intro e; have := hr k e.symm; omega)⟩
theorem row_fc {w w' : World} {base : Nat} {e : TypeId} {size : Nat} {v : Value} {n : Nat} {xs : List Value} {b : Nat} {row : Option Nat} (h : w.ownsRow base e size v n xs) (f : Fc b row w w') (hb : b < base) (hne : v.ownBlock = none ∨ v.ownBlock ≠ row) : w'.ownsRow base e size v n xs := by
  refine ⟨h.1, ?_⟩
  rcases h.2 with hn | ⟨g, cap, cur, rfl, hg, hgg, rest⟩
  · exact .inl hn
  · refine .inr ⟨g, cap, cur, rfl, hg, ?_, rest⟩
    rw [f.block g (Array.getElem?_eq_some_iff.1 hgg).1 (by omega) (by simpa [Value.ownBlock] using hne)]
    exact hgg
theorem row_fr {w w' : World} {base : Nat} {e : TypeId} {size : Nat} {v : Value} {n : Nat} {xs : List Value} {b : Nat} (h : w.ownsRow base e size v n xs) (f : Fr b w w') (hb : b < base) : w'.ownsRow base e size v n xs :=
  row_fc h (f.fc none) hb (by cases v.ownBlock <;> simp)
theorem row_set {w : World} {base : Nat} {e : TypeId} {size : Nat} {v : Value} {n : Nat} {xs : List Value} (h : w.ownsRow base e size v n xs) {b i : Nat} (hb : b < base) (u : Value) : (w.setCell ⟨b, i, none⟩ u).ownsRow base e size v n xs := row_fr h (Fr.setCell w i u) hb
theorem SR.grown {b : Nat} {s : ByteArray} {l : List Nat} {cv : Value} {o : Bool} {w w' : World} {row : Option Nat} (h : SR b s l cv o w) (g : w.grownBy w' row) (hb : some b ≠ row) : SR b s l cv o w' := by
  have hlt := h.lt
  obtain ⟨k, hA, hL⟩ := h
  refine ⟨k, hA, ?_⟩
  unfold SL at *
  rw [g.block b hlt hb, hL]
theorem SR.setComments {b : Nat} {s : ByteArray} {l : List Nat} {cv : Value} {o : Bool} {w : World} (h : SR b s l cv o w) (cv' : Value) : SR b s l cv' o (w.setCell ⟨b, 2, none⟩ cv') := by
  obtain ⟨k, hA, hL⟩ := h
  exact ⟨k, hA, hL.setComments cv'⟩
/-- The row of a value that owns something from base on is none of what lies below. -/
theorem row_ne {w : World} {base : Nat} {e : TypeId} {size : Nat} {v : Value} {n : Nat} {xs : List Value} (h : w.ownsRow base e size v n xs) {b : Nat} (hb : b < base) : some b ≠ v.ownBlock := by
  intro e'
  have := (h.lt b e'.symm).1
  omega
theorem new_row {w : World} {r : Option Nat} {g H : Nat} (h : r = some g ∨ g = H) (hH : w.heap.size ≤ H) : NewRow w r (some g) := by
  rcases h with h | rfl
  · exact Or.inl h.symm
  · exact Or.inr ⟨_, rfl, hH⟩
/-- The cells of pieces of a text of so many bytes. -/
def cellsP (z : Nat) (l : List (Nat × Nat)) : List Value := l.flatMap fun p => [.int .i64 ((z - p.1 : Nat) : Int), .int .i64 ((z - p.2 : Nat) : Int)]
theorem cellsP_append (z : Nat) (l m : List (Nat × Nat)) : cellsP z (l ++ m) = cellsP z l ++ cellsP z m := List.flatMap_append ..
/-- The cells of tokens. -/
def cellsT (z : Nat) (l : List Tp) : List Value := l.flatMap fun p => [.int .i64 (p.tk.kind : Int), .int .i64 ((z - p.b : Nat) : Int), .int .i64 ((z - p.e : Nat) : Int), .int .i64 (p.tk.unit : Int), .bool p.tk.id, .string (strOf p.tk.text)]
theorem cellsT_append (z : Nat) (l m : List Tp) : cellsT z (l ++ m) = cellsT z l ++ cellsT z m := List.flatMap_append ..
end Go.Proofs.YtmgkccnfhkcncaaDoor
