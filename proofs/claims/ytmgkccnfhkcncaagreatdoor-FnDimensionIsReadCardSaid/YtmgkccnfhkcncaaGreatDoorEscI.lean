/-
  css_lexer's lexer: isValidEscape, wouldStartIdentifier.
-/
import Derived.Test.YtmgkccnfhkcncaaGreatDoorStepI
import Derived.Test.YtmgkccnfhkcncaaGreatDoorLexChars
import Derived.IntWalk
namespace Go.Proofs.YtmgkccnfhkcncaaGreatDoor
open Go.RowKit
attribute [local go_sem ↓] Go.wp_at_zero Go.wp_at_succ

/-- What stands in the lexer's cells, for a walk that reads them. -/
theorem LR.reads {b : Nat} {P : Nat → Option Value} {s : ByteArray} {r : List UInt8} {st : Nat} {uo kd fl : Int} {w : World} (h : LR b P s r st uo kd fl w) : ∃ k : Nat, AtB s k r ∧ st ≤ k ∧ k + widB r ≤ s.size ∧ s.size ≤ 1073741824 ∧
    w.cell? ⟨b, 10, none⟩ = some (.string s) ∧ w.cell? ⟨b, 33, none⟩ = some (.int .i64 ((k + widB r : Nat) : Int)) ∧ w.cell? ⟨b, 35, none⟩ = some (.int .i32 (hdB r)) ∧ w.cell? ⟨b, 36, none⟩ = some (.int .i32 (st : Int)) ∧ w.cell? ⟨b, 37, none⟩ = some (.int .i32 ((k : Int) - st)) := by
  obtain ⟨_, hP, hs, k, n, hA, hst, hn, hL⟩ := h
  obtain ⟨_, c33, c35, c36, c37, -, -, -⟩ := hL.c
  exact ⟨k, hA, hst, hA.wle, hs, (hL.p 10 (.inl (by omega))).trans hP, c33, c35, c36, c37⟩
theorem LR.tabs {b : Nat} {P : Nat → Option Value} {s : ByteArray} {r : List UInt8} {st : Nat} {uo kd fl : Int} {w : World} (h : LR b P s r st uo kd fl w) : TB b w := h.1

set_option maxHeartbeats 4000000 in
set_option maxRecDepth 100000 in
theorem vescI (b : Nat) (P : Nat → Option Value) (s : ByteArray) (r : List UInt8) (st : Nat) (uo kd fl : Int) (w : World) (h : LR b P s r st uo kd fl w) :
    Calls Tryz.prog 97 #[.pointer (some ⟨b, 0, none⟩)] w fun e w' => e = .returned (.bool (vescB r)) ∧ Below w.heap.size w w' := by
  have hlt := h.lt
  obtain ⟨k, hA, hst, hk, hs, c10, c33, c35, -, -⟩ := h.reads
  have hA2 := hA.tail
  have hT := h.tabs
  by_cases h1 : hdB r = 92
  · have hv : vescB r = !nlB ((decG (tlB r)).1 : Int) := by unfold vescB; rw [decide_eq_true h1]; rfl
    rw [hv]
    obtain ⟨K, hK⟩ : ∃ K, k + widB r = K := ⟨_, rfl⟩
    rw [hK] at hA2 hk c33
    rw [h1] at c35
    have D := Lib.hid (fun w hT => decodeAt hA2 w hT)
    have hd := (decG_range (tlB r)).1
    obtain ⟨c, hc⟩ : ∃ c, (decG (tlB r)).1 = c := ⟨_, rfl⟩
    obtain ⟨m, hm⟩ : ∃ m, widB (tlB r) = m := ⟨_, rfl⟩
    rw [hc, hm] at D
    rw [hc] at hd ⊢
    have N := Lib.hid (fun w => lexNewline (c : Int) w)
    obtain ⟨x, hx⟩ : ∃ x, nlB (c : Int) = x := ⟨_, rfl⟩
    rw [hx] at N ⊢
    have TD := Lib.hid (show Lib.Utf8Tabs 0 1 w.drew from hT.tabs)
    have hK0 : (0 : Int) ≤ (K : Int) := by omega
    have hKs : (K : Int) ≤ (s.size : Int) := by omega
    clear hK hA hA2 h1 hv hc hm hx hT h hst
    go_enter Tryz.func97, Tryz.ntmps97
    go_wp2_with fail
    go_region_held3 (fun w' => w'.cell? ⟨b, 10, none⟩ = some (.string s) ∧ w'.cell? ⟨b, 33, none⟩ = some (.int .i64 K)) (go_keep)
      ((go_at_call 64; refine (D.out _ TD.out).mono ?_; rintro e w1 ⟨rfl, hb1⟩; have k10 := (hb1.cell (p := ⟨b, 10, none⟩) hlt).trans c10; have k33 := (hb1.cell (p := ⟨b, 33, none⟩) hlt).trans c33))
    go_wp2_with (go_at_call 93; refine (N.out _).mono ?_; rintro e w' ⟨rfl, rfl⟩)
    go_ret
    exact ⟨rfl, below_undrew hb1⟩
  · have hv : vescB r = false := by unfold vescB; rw [decide_eq_false h1]; rfl
    rw [hv]
    obtain ⟨cp, hcp⟩ : ∃ cp, hdB r = cp := ⟨_, rfl⟩
    rw [hcp] at c35 h1
    have t1 : (cp == 92) = false := beq_eq_false_iff_ne.2 h1
    have t2 : (cp != 92) = true := bne_iff_ne.2 h1
    clear hA hA2 hv hcp hT h hst c10 c33 h1
    go_enter Tryz.func97, Tryz.ntmps97
    go_wp2_with fail
    go_ret
    exact ⟨rfl, Below.refl _ _⟩

set_option maxHeartbeats 8000000 in
set_option maxRecDepth 100000 in
theorem wouldI (b : Nat) (P : Nat → Option Value) (s : ByteArray) (r : List UInt8) (st : Nat) (uo kd fl : Int) (w : World) (h : LR b P s r st uo kd fl w) :
    Calls Tryz.prog 98 #[.pointer (some ⟨b, 0, none⟩)] w fun e w' => e = .returned (.bool (wouldB r)) ∧ Below w.heap.size w w' := by
  have hlt := h.lt
  obtain ⟨k, hA, hst, hk, hs, c10, c33, c35, -, -⟩ := h.reads
  have hA2 := hA.tail
  have hT := h.tabs
  by_cases h0 : nsB (hdB r) = true
  · have hv : wouldB r = true := by unfold wouldB; rw [if_pos h0]
    rw [hv]
    have N := Lib.hid (fun w => isNameStart (hdB r) w)
    rw [h0] at N
    obtain ⟨cp, hcp⟩ : ∃ cp, hdB r = cp := ⟨_, rfl⟩
    rw [hcp] at N c35
    clear h0 hv hcp hA hA2 hT h hst hk c10 c33
    go_enter Tryz.func98, Tryz.ntmps98
    go_wp2_with (go_at_call 47; refine (N.out _).mono ?_; rintro e w' ⟨rfl, rfl⟩)
    go_ret
    exact ⟨rfl, Below.refl _ _⟩
  · by_cases h1 : hdB r = 45
    · have hv : wouldB r = (if (decG (tlB r)).1 = 65533 ∧ (decG (tlB r)).2 ≤ 1 then false
          else nsB ((decG (tlB r)).1 : Int) || decide ((decG (tlB r)).1 = 45) || (decide ((decG (tlB r)).1 = 92) && !nlB ((decG ((tlB r).drop (decG (tlB r)).2)).1 : Int))) := by
        unfold wouldB
        rw [if_neg h0, if_pos h1]
      rw [hv]
      have N0 := Lib.hid (fun w => isNameStart 45 w)
      rw [show nsB 45 = false from rfl] at N0
      obtain ⟨K, hK⟩ : ∃ K, k + widB r = K := ⟨_, rfl⟩
      rw [hK] at hA2 hk c33
      rw [h1] at c35
      have D := Lib.hid (fun w hT => decodeAt hA2 w hT)
      have hd := (decG_range (tlB r)).1
      have hw2 : (decG (tlB r)).2 ≤ (tlB r).length := widB_le (tlB r)
      have hsz := hA2.size
      have hA3 := hA2.drop' _ hw2
      obtain ⟨r1, hr1⟩ : ∃ r1, tlB r = r1 := ⟨_, rfl⟩
      rw [show widB (tlB r) = (decG (tlB r)).2 from rfl] at D
      rw [hr1] at D hd hw2 hsz hA3 ⊢
      obtain ⟨c, hc⟩ : ∃ c, (decG r1).1 = c := ⟨_, rfl⟩
      obtain ⟨m, hm⟩ : ∃ m, (decG r1).2 = m := ⟨_, rfl⟩
      rw [hc, hm] at D
      rw [hc] at hd
      rw [hm] at hw2 hA3
      rw [hc, hm]
      have hKm : K + m ≤ s.size := by omega
      have D2 := Lib.hid (fun w hT => decodeAt hA3 w hT)
      have hd2 := (decG_range (r1.drop m)).1
      rw [show widB (r1.drop m) = (decG (r1.drop m)).2 from rfl] at D2
      obtain ⟨c2, hc2⟩ : ∃ c2, (decG (r1.drop m)).1 = c2 := ⟨_, rfl⟩
      obtain ⟨m2, hm2⟩ : ∃ m2, (decG (r1.drop m)).2 = m2 := ⟨_, rfl⟩
      rw [hc2, hm2] at D2
      rw [hc2] at hd2 ⊢
      have NS := Lib.hid (fun w => isNameStart (c : Int) w)
      have NL := Lib.hid (fun w => lexNewline (c2 : Int) w)
      obtain ⟨x, hx⟩ : ∃ x, nsB (c : Int) = x := ⟨_, rfl⟩
      obtain ⟨y, hy⟩ : ∃ y, nlB (c2 : Int) = y := ⟨_, rfl⟩
      rw [hx] at NS ⊢
      rw [hy] at NL ⊢
      obtain ⟨z, hz⟩ : ∃ z, (if c = 65533 ∧ m ≤ 1 then false else x || decide (c = 45) || (decide (c = 92) && !y)) = z := ⟨_, rfl⟩
      rw [hz]
      have HZ := Lib.hid hz
      have HX := Lib.hid hx
      have HT := Lib.hid hT
      have TD := Lib.hid (show Lib.Utf8Tabs 0 1 w.drew from hT.tabs)
      have hK0 : (0 : Int) ≤ (K : Int) := by omega
      have hKs : (K : Int) ≤ (s.size : Int) := by omega
      have hKm0 : (0 : Int) ≤ (K : Int) + (m : Int) := by omega
      have hKms : (K : Int) + (m : Int) ≤ (s.size : Int) := by omega
      clear hK hA hA2 hA3 h1 h0 hv hc hm hc2 hm2 hx hy hz hT h hst hsz hw2 hr1 hK0
      go_enter Tryz.func98, Tryz.ntmps98
      go_wp2_with (go_at_call 47; refine (N0.out _).mono ?_; rintro e w' ⟨rfl, rfl⟩)
      go_region_held3 (fun w' => w'.cell? ⟨b, 10, none⟩ = some (.string s) ∧ w'.cell? ⟨b, 33, none⟩ = some (.int .i64 K)) (go_keep)
        ((go_at_call 64; refine (D.out _ TD.out).mono ?_; rintro e w1 ⟨rfl, hb1⟩; have k10 := (hb1.cell (p := ⟨b, 10, none⟩) hlt).trans c10; have k33 := (hb1.cell (p := ⟨b, 33, none⟩) hlt).trans c33; have k35 := (hb1.cell (p := ⟨b, 35, none⟩) hlt).trans c35))
      have HB := Lib.hid (below_undrew hb1)
      have T1 := Lib.hid (show Lib.Utf8Tabs 0 1 w1.drew from (HT.out.fr (Fr.of HB.out)).tabs)
      have hlt1 : b < w1.heap.size := by have := HB.out.size; omega
      clear hb1 c10 c33 c35 hlt
      by_cases g1 : c = 65533
      · subst g1
        by_cases g2 : m ≤ 1
        · go_wp2_with fail
          go_ret
          exact ⟨ret_bool (by rw [← HZ.out]; simp [g2]), HB.out⟩
        · have g3 : ¬ (m : Int) ≤ 1 := by omega
          cases x with
          | true =>
            go_wp2_with (go_at_call 47; refine (NS.out _).mono ?_; rintro e w' ⟨rfl, rfl⟩)
            go_ret
            exact ⟨ret_bool (by rw [← HZ.out, if_neg (fun hh => g2 hh.2)]; rfl), HB.out⟩
          | false => exact absurd HX.out (by decide)
      · have t1 : ((c : Int) == 65533) = false := beq_eq_false_iff_ne.2 (by omega)
        have G1 := Lib.hid g1
        clear g1
        cases x
        · by_cases g4 : c = 45
          · subst g4
            go_wp2_with (go_at_call 47; refine (NS.out _).mono ?_; rintro e w' ⟨rfl, rfl⟩)
            go_ret
            exact ⟨ret_bool (by rw [← HZ.out, if_neg (fun hh => G1.out hh.1)]; rfl), HB.out⟩
          · have t2 : ((c : Int) == 45) = false := beq_eq_false_iff_ne.2 (by omega)
            have G4 := Lib.hid g4
            clear g4
            by_cases g5 : c = 92
            · subst g5
              go_wp2_with (go_at_call 47; refine (NS.out _).mono ?_; rintro e w' ⟨rfl, rfl⟩)
              have hwr : IntKind.i64.wrap ((K : Int) + (m : Int)) = (K : Int) + (m : Int) := IntWalk.i64_in _ (by omega)
              go_region_held3 (fun w' => w'.cell? ⟨b, 10, none⟩ = some (.string s) ∧ w'.cell? ⟨b, 33, none⟩ = some (.int .i64 K)) (go_keep)
                ((go_at_call 64; refine (D2.out _ T1.out).mono ?_; rintro e w2 ⟨rfl, hb2⟩; have j10 := (hb2.cell (p := ⟨b, 10, none⟩) hlt1).trans k10; have j33 := (hb2.cell (p := ⟨b, 33, none⟩) hlt1).trans k33))
              clear hwr
              go_wp2_with (go_at_call 93; refine (NL.out _).mono ?_; rintro e w' ⟨rfl, rfl⟩)
              go_ret
              exact ⟨ret_bool (by rw [← HZ.out, if_neg (fun hh => G1.out hh.1)]; rfl), HB.out.trans ((below_undrew hb2).mono HB.out.size)⟩
            · have t3 : ((c : Int) == 92) = false := beq_eq_false_iff_ne.2 (by omega)
              have G5 := Lib.hid g5
              clear g5
              go_wp2_with (go_at_call 47; refine (NS.out _).mono ?_; rintro e w' ⟨rfl, rfl⟩)
              go_ret
              exact ⟨ret_bool (by rw [← HZ.out, if_neg (fun hh => G1.out hh.1), decide_eq_false G4.out, decide_eq_false G5.out]; rfl), HB.out⟩
        · go_wp2_with (go_at_call 47; refine (NS.out _).mono ?_; rintro e w' ⟨rfl, rfl⟩)
          go_ret
          exact ⟨ret_bool (by rw [← HZ.out, if_neg (fun hh => G1.out hh.1)]; rfl), HB.out⟩
    · have hv : wouldB r = vescB r := by unfold wouldB; rw [if_neg h0, if_neg h1]
      rw [hv]
      have V := Lib.hid (vescI b P s r st uo kd fl w h)
      have N := Lib.hid (fun w => isNameStart (hdB r) w)
      have h0' : nsB (hdB r) = false := by simpa using h0
      rw [h0'] at N
      obtain ⟨cp, hcp⟩ : ∃ cp, hdB r = cp := ⟨_, rfl⟩
      rw [hcp] at N c35 h1
      have t1 : (cp == 45) = false := beq_eq_false_iff_ne.2 h1
      obtain ⟨v, hvv⟩ : ∃ v, vescB r = v := ⟨_, rfl⟩
      rw [hvv] at V ⊢
      clear h0 h0' hv hcp hvv hA hA2 hT h hst hk c10 c33 h1
      go_enter Tryz.func98, Tryz.ntmps98
      go_wp2_with (go_at_call 47; refine (N.out _).mono ?_; rintro e w' ⟨rfl, rfl⟩)
      refine (V.out).mono ?_
      rintro e w1 ⟨rfl, hb⟩
      go_wp2
      go_ret
      exact ⟨rfl, hb⟩
end Go.Proofs.YtmgkccnfhkcncaaGreatDoor
