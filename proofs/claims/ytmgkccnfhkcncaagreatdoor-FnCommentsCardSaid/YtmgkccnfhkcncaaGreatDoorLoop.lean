/-
  css_lexer's lexer: how many bytes are left, a builder beside it, the end of a range. css_lexer: containsAtPreserveOrAtLicense: it says something, and leaves the heap's blocks alone.
-/
import Derived.Test.YtmgkccnfhkcncaaGreatDoorNmE
import Derived.Test.YtmgkccnfhkcncaaGreatDoorDecode
import Derived.Lib.OthersKept
import Derived.Laws.RangeAny
namespace Go.Proofs.YtmgkccnfhkcncaaGreatDoor
open Go.RowKit

def numOf : Option Value → Int
  | some (.int _ n) => n
  | _ => 0
/-- How many bytes are left. -/
def leftI (b : Nat) (s : ByteArray) (w : World) : Nat := s.size - (numOf (w.cell? ⟨b, 36, none⟩) + numOf (w.cell? ⟨b, 37, none⟩)).toNat
theorem LR.left {b : Nat} {P : Nat → Option Value} {s : ByteArray} {r : List UInt8} {st : Nat} {uo kd fl : Int} {w : World} (h : LR b P s r st uo kd fl w) : leftI b s w = r.length := by
  obtain ⟨k, hA, hst, _, _, _, _, _, c36, c37⟩ := h.reads
  have := hA.size
  unfold leftI
  rw [c36, c37]
  show s.size - ((st : Int) + ((k : Int) - st)).toNat = _
  omega
theorem LR.below {b B : Nat} {P : Nat → Option Value} {s : ByteArray} {r : List UInt8} {st : Nat} {uo kd fl : Int} {w w' : World} (h : LR b P s r st uo kd fl w) (hb : Below B w w') (hB : b < B) : LR b P s r st uo kd fl w' := by
  obtain ⟨⟨w0, h0, h1, h2⟩, hP, hs, k, n, hA, hst, hn, hL⟩ := h
  exact ⟨⟨w0, h0, h1, h2.trans (hb.mono (by omega))⟩, hP, hs, k, n, hA, hst, hn, hL.of (hb.block b hB)⟩
theorem LR.pos {b : Nat} {P : Nat → Option Value} {s : ByteArray} {r : List UInt8} {st : Nat} {uo kd fl : Int} {w : World} (h : LR b P s r st uo kd fl w) {k : Nat} (hA : AtB s k r) : st ≤ k ∧ w.cell? ⟨b, 37, none⟩ = some (.int .i32 ((k : Int) - st)) := by
  obtain ⟨k', hA', hst, _, _, _, _, _, _, c37⟩ := h.reads
  obtain rfl := hA.unique hA'
  exact ⟨hst, c37⟩
theorem LR.fz {b : Nat} {P : Nat → Option Value} {s : ByteArray} {r : List UInt8} {st : Nat} {uo kd fl : Int} {w : World} (h : LR b P s r st uo kd fl w) (i : Nat) : w.frozen? ⟨b, i, none⟩ = false := by
  obtain ⟨_, _, _, k, n, _, _, _, hL⟩ := h
  exact hL.fz i
theorem AtB.cons {s : ByteArray} {k : Nat} {r : List UInt8} (h : AtB s k r) (hk : k < s.size) : ∃ t, r = s[k] :: t ∧ AtB s (k + 1) t := by
  have h1 := h.get 0 (by omega)
  cases r with
  | nil => simp at h1
  | cons x t =>
    have h2 : x = s[k] := by simpa using h1
    exact ⟨t, by rw [h2], h.drop' 1 (by simp)⟩
theorem AtB.end_nil {s : ByteArray} {k : Nat} {r : List UInt8} (h : AtB s k r) (hk : ¬ k < s.size) : r = [] := List.eq_nil_of_length_eq_zero (by have := h.size; omega)
theorem rowF_fr {w w' : World} {base : Nat} {e : TypeId} {size : Nat} {v : Value} {n : Nat} {xs : List Value} {b : Nat} (h : w.ownsRowF base e size v n xs) (f : Fr b w w') (hb : b < base) : w'.ownsRowF base e size v n xs := by
  refine ⟨h.1, ?_⟩
  rcases h.2 with hn | ⟨g, cap, cur, fz, hv, hg, hh, hr⟩
  · exact .inl hn
  · have hlt : g < w.heap.size := (Array.getElem?_eq_some_iff.1 hh).1
    exact .inr ⟨g, cap, cur, fz, hv, hg, (f.block g hlt (by omega)).trans hh, hr⟩
theorem builder_fr {T e : TypeId} {B c b : Nat} {bs : List Value} {w w' : World} (h : Lib.IsBuilderF T e B c bs w) (f : Fr b w w') (hb : b < B) : Lib.IsBuilderF T e B c bs w' := by
  have one : ∀ p, Lib.BuilderAtF T e B c p bs w → Lib.BuilderAtF T e B c p bs w' := by
    intro p hp
    have hlt := hp.lt
    obtain ⟨hB, v, hc, hown, hne⟩ := hp
    exact ⟨hB, v, (f.block c hlt (by omega)).trans hc, rowF_fr hown f hb, hne⟩
  exact h.elim (fun x => .inl (one _ x)) (fun x => .inr (one _ x))

set_option maxHeartbeats 1000000 in
set_option maxRecDepth 100000 in
theorem rangeEndI (a e : Nat) (w : World) (h : a ≤ e) (he : e ≤ 2147483000) :
    Calls Tryz.prog 35 #[.agg #[.int .i32 (a : Int), .int .i32 ((e : Int) - a)]] w fun x w' => x = .returned (.int .i32 (e : Int)) ∧ Below w.heap.size w w' := by
  have hs : (a : Int) + ((e : Int) - a) = (e : Int) := by omega
  have HS := Lib.hid hs
  clear hs
  go_enter Tryz.func35, Tryz.ntmps35
  go_wp2
  go_ret
  exact ⟨ret_int HS.out, by first | exact Below.refl _ _ | exact (Below.refl _ _).alloc (Nat.le_refl _) _⟩
end Go.Proofs.YtmgkccnfhkcncaaGreatDoor

namespace Go.Proofs.YtmgkccnfhkcncaaGreatDoor
open Go.RowKit
attribute [local go_sem ↓] Go.wp_at_zero Go.wp_at_succ

theorem hasPrefI (s p : ByteArray) (w : World) : Calls Tryz.prog 116 #[.string s, .string p] w fun e w' => e = .returned (.bool (Lib.hasPrefix s.data.toList p.data.toList)) ∧ w = w' :=
  (Tryz.strings_HasPrefix s p w).mono fun _ _ h => ⟨h.1, h.2.symm⟩
theorem hasPrefE (s p : ByteArray) (w : World) : Calls Tryz.prog 116 #[.string s, .string p] w fun e w' => ∃ r, e = .returned (.bool r) ∧ w = w' :=
  (hasPrefI s p w).mono fun _ _ h => ⟨_, h.1, h.2⟩
theorem wid_pos (s : ByteArray) (pos : Nat) (h : pos < s.size) : 1 ≤ (Utf8.decode s pos).2 := by
  by_cases ha : (s[pos]'h).toNat < 128
  · rw [decode_ascii s pos h ha]
    exact Nat.le_refl _
  · exact (decode_high s pos h (by omega)).2
/-- A range over a string: its iterator, its place. -/
def ItR (K : Nat) (s : ByteArray) (w wr : World) : Prop := ∃ pos, wr.heap[K]? = some (.stringIter s pos) ∧ Below K w wr
theorem it_pos {K pos : Nat} {s : ByteArray} {w : World} (h : w.heap[K]? = some (.stringIter s pos)) : w.iterPos K = pos := by
  simp [World.iterPos, h]
theorem it_below {K : Nat} {s : ByteArray} {w wr : World} (h : Below K w wr) (pos : Nat) : Below K w (wr.iterAt K s pos) :=
  h.trans ⟨rfl, rfl, rfl, by simp [World.iterAt], fun k hk => by simp [World.iterAt, Array.getElem?_setIfInBounds_ne (show K ≠ k by omega)]⟩
theorem it_at {K pos : Nat} {s : ByteArray} {w : World} (h : w.heap[K]? = some (.stringIter s pos)) (p : Nat) : (w.iterAt K s p).heap[K]? = some (.stringIter s p) := by
  have := (Array.getElem?_eq_some_iff.1 h).1
  simp [World.iterAt, this]

set_option maxHeartbeats 8000000 in
set_option maxRecDepth 1000000 in
theorem containI (s : ByteArray) (w : World) (hs : s.size ≤ 1073741824) : Calls Tryz.prog 117 #[.string s] w fun e w' => (∃ r, e = .returned (.bool r)) ∧ Below w.heap.size w w' := by
  have HP := Lib.hid (fun s p w => hasPrefE s p w)
  obtain ⟨K, hK⟩ : ∃ K, w.heap.size = K := ⟨_, rfl⟩
  have START := Lib.hid (show ItR K s w (w.iter s 0) from ⟨0, by rw [← hK]; exact World.iter_heap w s 0, by rw [← hK]; exact (Below.refl _ _).alloc (Nat.le_refl _) _⟩)
  go_enter Tryz.func117, Tryz.ntmps117
  go_wp2_with fail
  go_loopw [] (fun wr => ItR K s w wr) (fun wr => s.size - wr.iterPos K)
  case atStart => exact START.out
  case round =>
    obtain ⟨pos, hk, hb⟩ := hrel
    have HB := Lib.hid hb
    have HK := Lib.hid hk
    have HM := Lib.hid (it_pos hk)
    clear START hb
    by_cases h : pos < s.size
    · have hnx := fun ty => Lib.run_next_any_at (P := Tryz.prog) wr K s pos ty hk h
      have hw := wid_pos s pos h
      obtain ⟨d, hd⟩ : ∃ d, (Utf8.decode s pos).2 = d := ⟨_, rfl⟩
      obtain ⟨c, hc⟩ : ∃ c, (Utf8.decode s pos).1 = c := ⟨_, rfl⟩
      rw [hd] at hw
      rw [hd, hc] at hnx
      clear hd hc hk
      have B2 := Lib.hid (it_below (s := s) HB.out (pos + d))
      have K2 := Lib.hid (it_at HK.out (pos + d))
      by_cases g : c = 64
      · subst g
        have p0 : (0 : Int) ≤ (pos : Int) + 1 := by omega
        have p1 : (pos : Int) + 1 ≤ (s.size : Int) := by omega
        go_wp2_with fail
        refine (HP.out _ _ _).mono ?_
        rintro e w2 ⟨r, rfl, rfl⟩
        cases r
        · go_wp2_with fail
          refine (HP.out _ _ _).mono ?_
          rintro e w2 ⟨r, rfl, rfl⟩
          cases r
          · go_wp2_with fail
            go_roundw
            case rel => exact ⟨_, K2.out, B2.out⟩
            case measure => rw [it_pos K2.out, HM.out]; omega
          · go_wp2_with fail
            go_ret
            exact ⟨⟨_, rfl⟩, by rw [hK]; exact B2.out⟩
        · go_wp2_with fail
          go_ret
          exact ⟨⟨_, rfl⟩, by rw [hK]; exact B2.out⟩
      · have t1 : ((c : Int) == 64) = false := beq_eq_false_iff_ne.2 (by omega)
        clear g
        go_wp2_with fail
        go_roundw
        case rel => exact ⟨_, K2.out, B2.out⟩
        case measure => rw [it_pos K2.out, HM.out]; omega
    · have hnx := fun ty => Lib.run_next_end_at (P := Tryz.prog) wr K s pos ty hk h
      clear hk
      go_wp2_with fail
      go_ret
      exact ⟨⟨_, rfl⟩, by rw [hK]; exact HB.out⟩
end Go.Proofs.YtmgkccnfhkcncaaGreatDoor
