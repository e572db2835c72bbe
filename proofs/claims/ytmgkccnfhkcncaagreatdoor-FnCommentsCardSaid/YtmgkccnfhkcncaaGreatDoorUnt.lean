/-
  spec.Unit, and spec.Name, spec.Identifier, spec.coded with their strings written out; the world is as it was. A frame: all blocks that stood, but one, stand as they stood.
-/
import Derived.Test.YtmgkccnfhkcncaaGreatDoorIdent
namespace Go.Proofs.YtmgkccnfhkcncaaGreatDoor
open Go.RowKit

theorem below_draws (B n : Nat) (w : World) : Below B w (w.drewN n) := ⟨rfl, rfl, rfl, Nat.le_refl _, fun _ _ => rfl⟩
/-- The string of code points. -/
def strOf (l : List Nat) : ByteArray := ⟨(encs l).toArray⟩
theorem strOf_list (l : List Nat) : (strOf l).data.toList = encs l := rfl
theorem eq_strOf {s : ByteArray} {l : List Nat} (h : s.data.toList = encs l) : s = strOf l := by
  obtain ⟨⟨d⟩⟩ := s
  have : d = encs l := h
  subst this; rfl

theorem codedX (c : Nat) (w : World) (hc1 : 1 ≤ c) (hc : c ≤ 2147483647) :
    Calls Tryz.prog 42 #[.int .i64 c] w fun e w' => e = .returned (.string (strOf (codedC 1 c))) ∧ w' = w :=
  (coded c w hc1 hc).mono fun _ _ ⟨⟨_, he, hl⟩, hw⟩ => ⟨by rw [he, eq_strOf hl], hw.symm⟩
theorem codedZ (z : Int) (c : Nat) (w : World) (hz : z = (c : Int)) (hc1 : 1 ≤ c) (hc : c ≤ 2147483647) :
    Calls Tryz.prog 42 #[.int .i64 z] w fun e w' => e = .returned (.string (strOf (codedC 1 c))) ∧ w' = w := by rw [hz]; exact codedX c w hc1 hc
theorem nameX (s : ByteArray) (w : World) (hz : s.size ≤ 4294967296) (l : List Nat) (hl : ∀ c ∈ l, Cp c) (hd : s.data.toList = encs l) :
    Calls Tryz.prog 22 #[.string s] w fun e w' => e = .returned (.string (strOf (nameC l))) ∧ w' = w :=
  (specName s w hz l hl hd).mono fun _ _ ⟨⟨_, he, hl⟩, hw⟩ => ⟨by rw [he, eq_strOf hl], hw.symm⟩
theorem identX (s : ByteArray) (w : World) (hz : s.size ≤ 4294967296) (l : List Nat) (hl : ∀ c ∈ l, Cp c) (hd : s.data.toList = encs l) :
    Calls Tryz.prog 21 #[.string s] w fun e w' => e = .returned (.string (strOf (identC l))) ∧ w' = w :=
  (specIdentifier s w hz l hl hd).mono fun _ _ ⟨⟨_, he, hl⟩, hw⟩ => ⟨by rw [he, eq_strOf hl], hw.symm⟩

theorem strOf_size (l : List Nat) : (strOf l).size ≤ 4 * l.length := by
  show (encs l).length ≤ _
  exact encs_len_ge l
theorem idChar_len (dig lone : Bool) (c : Nat) (h : Cp c) : (idChar dig lone c).length ≤ 8 := by
  have hd := digs_len 1 c (by unfold Cp at h; omega) (by omega)
  have hcd : (codedC 1 c).length = (digs 1 c).length + 2 := by unfold codedC; simp
  unfold idChar
  by_cases h1 : isCtl c = true ∨ (isDg c = true ∧ dig = true)
  · rw [if_pos h1]; omega
  · rw [if_neg h1]
    by_cases h2 : conts c = true ∧ lone = false
    · rw [if_pos h2]; simp
    · rw [if_neg h2]; simp
theorem idRest_len : ∀ (l : List Nat), (∀ c ∈ l, Cp c) → (idRest false l).length ≤ 8 * l.length
  | [], _ => Nat.le_refl _
  | c :: t, h => by
    have h1 := idChar_len false false c (h c (by simp))
    have h2 := idRest_len t fun d hd => h d (by simp [hd])
    have : idRest false (c :: t) = idChar false false c ++ idRest false t := by simp [idRest]
    rw [this, List.length_append, List.length_cons]; omega
theorem nameC_len (l : List Nat) (h : ∀ c ∈ l, Cp c) : (nameC l).length ≤ 8 * l.length := idRest_len l h
theorem identC_len (l : List Nat) (h : ∀ c ∈ l, Cp c) : (identC l).length ≤ 8 * l.length := by
  match l, h with
  | [], _ => exact Nat.le_refl _
  | [c], h => exact idChar_len _ _ c (h c (by simp))
  | c :: d :: t, h =>
    show (idChar true false c ++ idChar (c == 45) false d ++ idRest false t).length ≤ _
    have h1 := idChar_len true false c (h c (by simp))
    have h2 := idChar_len (c == 45) false d (h d (by simp))
    have h3 := idRest_len t fun x hx => h x (by simp [hx])
    simp only [List.length_append, List.length_cons]; omega
theorem codedC_len (least c : Nat) (h : Cp c) (hl : least ≤ 6) : (codedC least c).length ≤ 8 := by
  have hd := digs_len least c (by unfold Cp at h; omega) hl
  have hcd : (codedC least c).length = (digs least c).length + 2 := by unfold codedC; simp
  omega
theorem unitC_len (l : List Nat) (h : ∀ c ∈ l, Cp c) : (unitC l).length ≤ 8 * l.length := by
  match l, h with
  | [], _ => exact Nat.le_refl _
  | c :: t, h =>
    rw [unitC_cons]
    by_cases he : c = 101 ∨ c = 69
    · rw [if_pos he, List.length_append, List.length_cons]
      have h1 := codedC_len 1 c (h c (by simp)) (by omega)
      have h2 := nameC_len t fun x hx => h x (by simp [hx])
      omega
    · rw [if_neg he]; exact identC_len _ h

set_option maxHeartbeats 2000000 in
set_option maxRecDepth 100000 in
theorem unitX (s : ByteArray) (w : World) (hz : s.size ≤ 4294967296) (c : Nat) (t : List Nat) (hl : ∀ d ∈ c :: t, Cp d) (hd : s.data.toList = encs (c :: t)) :
    Calls Tryz.prog 28 #[.string s] w fun e w' => e = .returned (.string (strOf (unitC (c :: t)))) ∧ Below w.heap.size w w' := by
  have hn := enc_len c
  have hsz : s.size = (enc c).length + (encs t).length := by rw [size_of hd, encs_cons, List.length_append]
  have h0 : 0 < s.size := by omega
  obtain ⟨x, hx⟩ : ∃ x, s[0] = x := ⟨_, rfl⟩
  by_cases he : c = 101 ∨ c = 69
  · have hc1 : enc c = [c.toUInt8] := enc_ascii c (by omega)
    have hxc : (x.toNat : Int) = (c : Int) := by
      have : s.data.toList[0]? = some x := by rw [← hx]; exact List.getElem?_eq_getElem (by show 0 < s.data.toList.length; exact h0)
      rw [hd, encs_cons, hc1] at this
      simp at this
      rw [← this]
      rcases he with rfl | rfl <;> rfl
    have hd1 : (s.extract 1 s.size).data.toList = encs t := by
      rw [Lib.extract_to_end, hd, encs_cons, hc1]; rfl
    have hs1 : (s.extract 1 s.size).size ≤ 4294967296 := by rw [size_of hd1]; omega
    have NM := Lib.hid (fun w => nameX (s.extract 1 s.size) w hs1 t (fun d hdm => hl d (by simp [hdm])) hd1)
    have U := Lib.hid (show strOf (codedC 1 c) ++ strOf (nameC t) = strOf (unitC (c :: t)) by
      apply eq_strOf
      rw [app_list, strOf_list, strOf_list, unitC_cons, if_pos he, encs_append])
    have z1 := strOf_size (codedC 1 c)
    have z2 := strOf_size (nameC t)
    have z3 := codedC_len 1 c (hl c (by simp)) (by omega)
    have z4 := nameC_len t fun d hdm => hl d (by simp [hdm])
    have z5 := encs_len_le t
    have zz : (strOf (codedC 1 c)).size + (strOf (nameC t)).size ≤ 9223372036854775807 := by omega
    clear z1 z2 z3 z4 z5 hd hd1 hs1 hc1 hl hsz
    rcases he with rfl | rfl
    · obtain rfl : x = 101 := UInt8.toNat_inj.1 (by show x.toNat = 101; omega)
      have CD := Lib.hid (fun w => codedZ 101 101 w (by decide) (by decide) (by decide))
      clear hxc
      go_enter Tryz.func28, Tryz.ntmps28
      go_wp2_with fail
      go_quiet ((first | (go_at_call 42; exact Calls.quiet_of_same (CD.out _)) | (go_at_call 22; exact Calls.quiet_of_same (NM.out _))))
      go_wp2
      go_ret
      exact ⟨by rw [← U.out]; rfl, below_draws _ _ _⟩
    · obtain rfl : x = 69 := UInt8.toNat_inj.1 (by show x.toNat = 69; omega)
      have CD := Lib.hid (fun w => codedZ 69 69 w (by decide) (by decide) (by decide))
      clear hxc
      go_enter Tryz.func28, Tryz.ntmps28
      go_wp2_with fail
      go_quiet ((first | (go_at_call 42; exact Calls.quiet_of_same (CD.out _)) | (go_at_call 22; exact Calls.quiet_of_same (NM.out _))))
      go_wp2
      go_ret
      exact ⟨by rw [← U.out]; rfl, below_draws _ _ _⟩
  · have hne1 : (x.toNat : Int) ≠ 101 ∧ (x.toNat : Int) ≠ 69 := by
      have hb : s.data.toList[0]? = some x := by rw [← hx]; exact List.getElem?_eq_getElem (by show 0 < s.data.toList.length; exact h0)
      rw [hd, encs_cons] at hb
      by_cases ha : c < 128
      · rw [enc_ascii c ha] at hb
        simp at hb
        have : x.toNat = c := by rw [← hb]; simp [UInt8.toNat_ofNat']; omega
        omega
      · have hm : x ∈ enc c := by
          cases hq : enc c with
          | nil => exact absurd hq (enc_ne c)
          | cons y ys => rw [hq] at hb; simp at hb; simp [hb]
        have := enc_high c (by omega) x hm
        omega
    have t1 : ((x.toNat : Int) == 101) = false := beq_eq_false_iff_ne.2 hne1.1
    have t2 : ((x.toNat : Int) == 69) = false := beq_eq_false_iff_ne.2 hne1.2
    have I := Lib.hid (fun w => identX s w hz (c :: t) hl hd)
    have e : unitC (c :: t) = identC (c :: t) := by rw [unitC_cons, if_neg he]
    rw [e]
    clear hne1 hsz hd he hl e
    go_enter Tryz.func28, Tryz.ntmps28
    go_wp2_with (go_at_call 21; refine (I.out _).mono ?_; rintro e w' ⟨rfl, rfl⟩)
    go_ret
    exact ⟨rfl, Below.refl _ _⟩
end Go.Proofs.YtmgkccnfhkcncaaGreatDoor

namespace Go.Proofs.YtmgkccnfhkcncaaGreatDoor
open Go.RowKit

/-! ### a frame: all blocks that stood, but block b, stand as they stood -/
structure Fr (b : Nat) (w w' : World) : Prop where
  os : w'.os = w.os
  tape : w'.tape = w.tape
  output : w'.output = w.output
  size : w.heap.size ≤ w'.heap.size
  block : ∀ k, k < w.heap.size → k ≠ b → w'.heap[k]? = w.heap[k]?
theorem Fr.refl (b : Nat) (w : World) : Fr b w w := ⟨rfl, rfl, rfl, Nat.le_refl _, fun _ _ _ => rfl⟩
theorem Fr.trans {b : Nat} {u v w : World} (h : Fr b u v) (k : Fr b v w) : Fr b u w :=
  ⟨k.os.trans h.os, k.tape.trans h.tape, k.output.trans h.output, Nat.le_trans h.size k.size, fun i hi hb => (k.block i (Nat.lt_of_lt_of_le hi h.size) hb).trans (h.block i hi hb)⟩
theorem Fr.of {b : Nat} {w w' : World} (h : Below w.heap.size w w') : Fr b w w' := ⟨h.os, h.tape, h.output, h.size, fun k hk _ => h.block k hk⟩
theorem Fr.below {b B : Nat} {w w' : World} (h : Fr b w w') (hB : B ≤ b) (hBw : B ≤ w.heap.size) : Below B w w' :=
  ⟨h.os, h.tape, h.output, h.size, fun k hk => h.block k (Nat.lt_of_lt_of_le hk hBw) (by omega)⟩
theorem Fr.drewN (b n : Nat) (w : World) : Fr b w (w.drewN n) := Fr.of (below_draws _ _ _)
theorem Fr.setCell {b : Nat} (w : World) (o : Nat) (v : Value) : Fr b w (w.setCell ⟨b, o, none⟩ v) := by
  have h := (Below.refl 0 w).setCell (p := ⟨b, o, none⟩) (Nat.zero_le _) v
  exact ⟨h.os, h.tape, h.output, h.size, fun k _ hk => Below.heap_setCell w ⟨b, o, none⟩ v k hk⟩
theorem Fr.cell {b : Nat} {w w' : World} (h : Fr b w w') {p : Addr} (hp : p.block < w.heap.size) (hb : p.block ≠ b) : w'.cell? p = w.cell? p := World.cell?_of_block (w := w) (h.block p.block hp hb)
theorem Fr.frozen {b : Nat} {w w' : World} (h : Fr b w w') {p : Addr} (hp : p.block < w.heap.size) (hb : p.block ≠ b) : w'.frozen? p = w.frozen? p := World.frozen?_of_block (w := w) (h.block p.block hp hb)

theorem Fr.alloc {b : Nat} {w w' : World} (h : Fr b w w') (o : Obj) : Fr b w (w'.alloc o) :=
  ⟨h.os, h.tape, h.output, Nat.le_trans h.size (by simp), fun k hk hb => (Below.heap_alloc w' o k (Nat.lt_of_lt_of_le hk h.size)).trans (h.block k hk hb)⟩
theorem Fr.far {b : Nat} {w w' : World} (h : Fr b w w') {p : Addr} (hp : w.heap.size ≤ p.block) (v : Value) : Fr b w (w'.setCell p v) :=
  ⟨h.os, h.tape, h.output, by simpa [World.setCell] using h.size, fun k hk hb => (Below.heap_setCell w' p v k (by omega)).trans (h.block k hk hb)⟩
/-- What a call does to the lexer's world, where the caller has made its zero token first. -/
theorem Fr.made {b : Nat} {w w' : World} {x : Obj} (f : Fr b (w.alloc x) w') : Fr b w w' := (Fr.of ((Below.refl _ _).alloc (Nat.le_refl _) _)).trans f

end Go.Proofs.YtmgkccnfhkcncaaGreatDoor
