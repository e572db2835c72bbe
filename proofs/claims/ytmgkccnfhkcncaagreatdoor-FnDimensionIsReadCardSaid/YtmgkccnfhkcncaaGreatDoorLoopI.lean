/-
  css_lexer's lexer: how many bytes are left, a builder beside it, the end of a range.
-/
import Derived.Test.YtmgkccnfhkcncaaGreatDoorEscJ
import Derived.Test.YtmgkccnfhkcncaaGreatDoorDecode
namespace Go.Proofs.YtmgkccnfhkcncaaGreatDoor
open Go.RowKit

def numOf : Option Value → Int
  | some (.int _ n) => n
  | _ => 0
/-- How many bytes are left. -/
def leftI (b : Nat) (s : ByteArray) (w : World) : Nat := s.size - (numOf (w.cell? ⟨b, 36, none⟩) + numOf (w.cell? ⟨b, 37, none⟩)).toNat
theorem LR.left {b : Nat} {P : Nat → Option Value} {s : ByteArray} {r : List UInt8} {st : Nat} {uo kd fl : Int} {w : World} (h : LR b P s r st uo kd fl w) : leftI b s w = r.length := by
  obtain ⟨k, hA, hst, _, _, _, _, _, c36, c37⟩ := h.reads
  have := hA.size
  unfold leftI
  rw [c36, c37]
  show s.size - ((st : Int) + ((k : Int) - st)).toNat = _
  omega
theorem LR.below {b B : Nat} {P : Nat → Option Value} {s : ByteArray} {r : List UInt8} {st : Nat} {uo kd fl : Int} {w w' : World} (h : LR b P s r st uo kd fl w) (hb : Below B w w') (hB : b < B) : LR b P s r st uo kd fl w' := by
  obtain ⟨⟨w0, h0, h1, h2⟩, hP, hs, k, n, hA, hst, hn, hL⟩ := h
  exact ⟨⟨w0, h0, h1, h2.trans (hb.mono (by omega))⟩, hP, hs, k, n, hA, hst, hn, hL.of (hb.block b hB)⟩
theorem LR.pos {b : Nat} {P : Nat → Option Value} {s : ByteArray} {r : List UInt8} {st : Nat} {uo kd fl : Int} {w : World} (h : LR b P s r st uo kd fl w) {k : Nat} (hA : AtB s k r) : st ≤ k ∧ w.cell? ⟨b, 37, none⟩ = some (.int .i32 ((k : Int) - st)) := by
  obtain ⟨k', hA', hst, _, _, _, _, _, _, c37⟩ := h.reads
  obtain rfl := hA.unique hA'
  exact ⟨hst, c37⟩
theorem LR.fz {b : Nat} {P : Nat → Option Value} {s : ByteArray} {r : List UInt8} {st : Nat} {uo kd fl : Int} {w : World} (h : LR b P s r st uo kd fl w) (i : Nat) : w.frozen? ⟨b, i, none⟩ = false := by
  obtain ⟨_, _, _, k, n, _, _, _, hL⟩ := h
  exact hL.fz i
theorem AtB.cons {s : ByteArray} {k : Nat} {r : List UInt8} (h : AtB s k r) (hk : k < s.size) : ∃ t, r = s[k] :: t ∧ AtB s (k + 1) t := by
  have h1 := h.get 0 (by omega)
  cases r with
  | nil => simp at h1
  | cons x t =>
    have h2 : x = s[k] := by simpa using h1
    exact ⟨t, by rw [h2], h.drop' 1 (by simp)⟩
theorem AtB.end_nil {s : ByteArray} {k : Nat} {r : List UInt8} (h : AtB s k r) (hk : ¬ k < s.size) : r = [] := List.eq_nil_of_length_eq_zero (by have := h.size; omega)
theorem rowF_fr {w w' : World} {base : Nat} {e : TypeId} {size : Nat} {v : Value} {n : Nat} {xs : List Value} {b : Nat} (h : w.ownsRowF base e size v n xs) (f : Fr b w w') (hb : b < base) : w'.ownsRowF base e size v n xs := by
  refine ⟨h.1, ?_⟩
  rcases h.2 with hn | ⟨g, cap, cur, fz, hv, hg, hh, hr⟩
  · exact .inl hn
  · have hlt : g < w.heap.size := (Array.getElem?_eq_some_iff.1 hh).1
    exact .inr ⟨g, cap, cur, fz, hv, hg, (f.block g hlt (by omega)).trans hh, hr⟩
theorem builder_fr {T e : TypeId} {B c b : Nat} {bs : List Value} {w w' : World} (h : Lib.IsBuilderF T e B c bs w) (f : Fr b w w') (hb : b < B) : Lib.IsBuilderF T e B c bs w' := by
  have one : ∀ p, Lib.BuilderAtF T e B c p bs w → Lib.BuilderAtF T e B c p bs w' := by
    intro p hp
    have hlt := hp.lt
    obtain ⟨hB, v, hc, hown, hne⟩ := hp
    exact ⟨hB, v, (f.block c hlt (by omega)).trans hc, rowF_fr hown f hb, hne⟩
  exact h.elim (fun x => .inl (one _ x)) (fun x => .inr (one _ x))

set_option maxHeartbeats 1000000 in
set_option maxRecDepth 100000 in
theorem rangeEndI (a e : Nat) (w : World) (h : a ≤ e) (he : e ≤ 2147483000) :
    Calls Tryz.prog 35 #[.agg #[.int .i32 (a : Int), .int .i32 ((e : Int) - a)]] w fun x w' => x = .returned (.int .i32 (e : Int)) ∧ Below w.heap.size w w' := by
  have hs : (a : Int) + ((e : Int) - a) = (e : Int) := by omega
  have HS := Lib.hid hs
  clear hs
  go_enter Tryz.func35, Tryz.ntmps35
  go_wp2
  go_ret
  exact ⟨ret_int HS.out, by first | exact Below.refl _ _ | exact (Below.refl _ _).alloc (Nat.le_refl _) _⟩
end Go.Proofs.YtmgkccnfhkcncaaGreatDoor
