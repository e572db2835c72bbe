/-
  css_lexer's lexer: wouldStartNumber.
-/
import Derived.Test.YtmgkccnfhkcncaaGreatDoorEscI
namespace Go.Proofs.YtmgkccnfhkcncaaGreatDoor
open Go.RowKit

theorem AtB.dig {s : ByteArray} {k : Nat} {r : List UInt8} (h : AtB s k r) (i : Nat) (hi : k + i < s.size) : digAt r i = digU s[k + i] := by unfold digAt; rw [h.get i hi]
theorem AtB.dot {s : ByteArray} {k : Nat} {r : List UInt8} (h : AtB s k r) (i : Nat) (hi : k + i < s.size) : dotAt r i = decide (s[k + i].toNat = 46) := by unfold dotAt; rw [h.get i hi]
theorem AtB.noDig {s : ByteArray} {k : Nat} {r : List UInt8} (h : AtB s k r) (i : Nat) (hi : s.size ≤ k + i) : digAt r i = false := by unfold digAt; rw [h.none i hi]
theorem AtB.noDot {s : ByteArray} {k : Nat} {r : List UInt8} (h : AtB s k r) (i : Nat) (hi : s.size ≤ k + i) : dotAt r i = false := by unfold dotAt; rw [h.none i hi]
theorem digU_no1 {x : UInt8} (h : ¬ 48 ≤ (x.toNat : Int)) : digU x = false := decide_eq_false (by omega)
theorem digU_no2 {x : UInt8} (h : ¬ (x.toNat : Int) ≤ 57) : digU x = false := decide_eq_false (by omega)
theorem digU_yes {x : UInt8} (h : 48 ≤ (x.toNat : Int)) (h2 : (x.toNat : Int) ≤ 57) : digU x = true := decide_eq_true (by omega)

set_option maxHeartbeats 8000000 in
set_option maxRecDepth 100000 in
theorem cntI (b : Nat) (P : Nat → Option Value) (s : ByteArray) (r : List UInt8) (st : Nat) (uo kd fl : Int) (w : World) (h : LR b P s r st uo kd fl w) :
    Calls Tryz.prog 100 #[.pointer (some ⟨b, 0, none⟩)] w fun e w' => e = .returned (.bool (cntB r)) ∧ w = w' := by
  obtain ⟨k, hA, hst, hk, hs, c10, c33, c35, -, -⟩ := h.reads
  have hA2 := hA.tail
  obtain ⟨K, hK⟩ : ∃ K, k + widB r = K := ⟨_, rfl⟩
  rw [hK] at hA2 hk c33
  obtain ⟨z, hz⟩ : ∃ z, cntB r = z := ⟨_, rfl⟩
  obtain ⟨cp, hcp⟩ : ∃ cp, hdB r = cp := ⟨_, rfl⟩
  have HZ := Lib.hid (show (if dgB cp = true then true else if cp = 46 then digAt (tlB r) 0 else if cp = 43 ∨ cp = 45 then digAt (tlB r) 0 || (dotAt (tlB r) 0 && digAt (tlB r) 1) else false) = z by rw [← hcp, ← hz]; rfl)
  rw [hcp] at c35
  rw [hz]
  have AA := Lib.hid hA2
  have hK0 : (0 : Int) ≤ (K : Int) := by omega
  clear hz hcp hK hA hA2 h hst
  by_cases g0 : dgB cp = true
  · have g1 : 48 ≤ cp ∧ cp ≤ 57 := of_decide_eq_true g0
    obtain ⟨g2, g3⟩ := g1
    have hfin := HZ.out
    rw [if_pos g0] at hfin
    subst hfin
    clear g0 HZ AA
    go_enter Tryz.func100, Tryz.ntmps100
    go_wp2_with fail
    go_ret
    exact ⟨rfl, rfl⟩
  · have HZ := Lib.hid (HZ.out)
    have g0f : dgB cp = false := Bool.eq_false_iff.2 g0
    have g1 : ¬ (48 ≤ cp ∧ cp ≤ 57) := of_decide_eq_false g0f
    have HZ2 := Lib.hid (show (if cp = 46 then digAt (tlB r) 0 else if cp = 43 ∨ cp = 45 then digAt (tlB r) 0 || (dotAt (tlB r) 0 && digAt (tlB r) 1) else false) = z by rw [← HZ.out, if_neg g0])
    clear g0 g0f HZ
    by_cases g2 : cp = 46
    · have HZ3 := Lib.hid (show digAt (tlB r) 0 = z by rw [← HZ2.out, if_pos g2])
      subst g2
      clear g1 HZ2
      by_cases hb : K < s.size
      · have hbi : (K : Int) < (s.size : Int) := by omega
        obtain ⟨x, hx⟩ : ∃ x, s[K] = x := ⟨_, rfl⟩
        have HX := Lib.hid (show digAt (tlB r) 0 = digU x by rw [← hx]; exact AA.out.dig 0 hb)
        by_cases g3 : 48 ≤ (x.toNat : Int)
        · by_cases g4 : (x.toNat : Int) ≤ 57
          · go_enter Tryz.func100, Tryz.ntmps100
            go_wp2_with fail
            go_ret
            exact ⟨ret_bool (by rw [← HZ3.out, HX.out, digU_yes (by omega) (by omega)]), rfl⟩
          · go_enter Tryz.func100, Tryz.ntmps100
            go_wp2_with fail
            go_ret
            exact ⟨ret_bool (by rw [← HZ3.out, HX.out, digU_no2 (by omega)]), rfl⟩
        · go_enter Tryz.func100, Tryz.ntmps100
          go_wp2_with fail
          go_ret
          exact ⟨ret_bool (by rw [← HZ3.out, HX.out, digU_no1 (by omega)]), rfl⟩
      · have hbi : ¬ (K : Int) < (s.size : Int) := by omega
        go_enter Tryz.func100, Tryz.ntmps100
        go_wp2_with fail
        go_ret
        exact ⟨ret_bool (by rw [← HZ3.out, AA.out.noDig 0 (by omega)]), rfl⟩
    · have t46 : (cp == 46) = false := beq_eq_false_iff_ne.2 g2
      have HZ3 := Lib.hid (show (if cp = 43 ∨ cp = 45 then digAt (tlB r) 0 || (dotAt (tlB r) 0 && digAt (tlB r) 1) else false) = z by rw [← HZ2.out, if_neg g2])
      clear HZ2 g2
      by_cases g3 : cp = 43 ∨ cp = 45
      · have HZ4 := Lib.hid (show (digAt (tlB r) 0 || (dotAt (tlB r) 0 && digAt (tlB r) 1)) = z by rw [← HZ3.out, if_pos g3])
        clear HZ3 t46 g1
        obtain ⟨y, hy⟩ : ∃ y, (cp == 43) = y := ⟨_, rfl⟩
        by_cases hb : K < s.size
        · have hbi : (K : Int) < (s.size : Int) := by omega
          obtain ⟨x, hx⟩ : ∃ x, s[K] = x := ⟨_, rfl⟩
          have HX := Lib.hid (show digAt (tlB r) 0 = digU x by rw [← hx]; exact AA.out.dig 0 hb)
          have HD := Lib.hid (show dotAt (tlB r) 0 = decide (x.toNat = 46) by rw [← hx]; exact AA.out.dot 0 hb)
          by_cases g4 : digU x = true
          · have g5 : 48 ≤ x.toNat ∧ x.toNat ≤ 57 := of_decide_eq_true g4
            have g6 : 48 ≤ (x.toNat : Int) := by omega
            have g7 : (x.toNat : Int) ≤ 57 := by omega
            have G4 := Lib.hid g4
            clear g4 g5 hy
            rcases g3 with rfl | rfl
            all_goals
              go_enter Tryz.func100, Tryz.ntmps100
              go_wp2_with fail
              go_ret
              exact ⟨ret_bool (by rw [← HZ4.out, HX.out, G4.out]; rfl), rfl⟩
          · have g5 : ¬ (48 ≤ (x.toNat : Int) ∧ (x.toNat : Int) ≤ 57) := by
              have : ¬ (48 ≤ x.toNat ∧ x.toNat ≤ 57) := of_decide_eq_false (Bool.eq_false_iff.2 g4)
              omega
            have G4 := Lib.hid (show digU x = false from Bool.eq_false_iff.2 g4)
            clear g4 hy
            by_cases g6 : x.toNat = 46
            · have t6 : ((x.toNat : Int) == 46) = true := beq_iff_eq.2 (by omega)
              have g8 : ¬ 48 ≤ (x.toNat : Int) := by omega
              have G6 := Lib.hid g6
              clear g6 g5
              by_cases hb2 : K + 1 < s.size
              · have hbi2 : (K : Int) + 1 < (s.size : Int) := by omega
                obtain ⟨y, hy⟩ : ∃ y, s[K + 1] = y := ⟨_, rfl⟩
                have HY := Lib.hid (show digAt (tlB r) 1 = digU y by rw [← hy]; exact AA.out.dig 1 hb2)
                by_cases g9 : 48 ≤ (y.toNat : Int)
                · by_cases g10 : (y.toNat : Int) ≤ 57
                  · rcases g3 with rfl | rfl
                    all_goals
                      go_enter Tryz.func100, Tryz.ntmps100
                      go_wp2_with fail
                      go_ret
                      exact ⟨ret_bool (by rw [← HZ4.out, HX.out, G4.out, HD.out, G6.out, HY.out, digU_yes (by omega) (by omega)]; rfl), rfl⟩
                  · rcases g3 with rfl | rfl
                    all_goals
                      go_enter Tryz.func100, Tryz.ntmps100
                      go_wp2_with fail
                      go_ret
                      exact ⟨ret_bool (by rw [← HZ4.out, HX.out, G4.out, HY.out, digU_no2 (by omega)]; simp), rfl⟩
                · rcases g3 with rfl | rfl
                  all_goals
                    go_enter Tryz.func100, Tryz.ntmps100
                    go_wp2_with fail
                    go_ret
                    exact ⟨ret_bool (by rw [← HZ4.out, HX.out, G4.out, HY.out, digU_no1 (by omega)]; simp), rfl⟩
              · have hbi2 : ¬ (K : Int) + 1 < (s.size : Int) := by omega
                rcases g3 with rfl | rfl
                all_goals
                  go_enter Tryz.func100, Tryz.ntmps100
                  go_wp2_with fail
                  go_ret
                  exact ⟨ret_bool (by rw [← HZ4.out, HX.out, G4.out, AA.out.noDig 1 (by omega)]; simp), rfl⟩
            · have t6 : ((x.toNat : Int) == 46) = false := beq_eq_false_iff_ne.2 (by omega)
              have G6 := Lib.hid g6
              clear g6
              by_cases g9 : 48 ≤ (x.toNat : Int)
              · have g10 : ¬ (x.toNat : Int) ≤ 57 := fun hh => g5 ⟨g9, hh⟩
                clear g5
                rcases g3 with rfl | rfl
                all_goals
                  go_enter Tryz.func100, Tryz.ntmps100
                  go_wp2_with fail
                  go_ret
                  exact ⟨ret_bool (by rw [← HZ4.out, HX.out, G4.out, HD.out, decide_eq_false G6.out]; rfl), rfl⟩
              · clear g5
                rcases g3 with rfl | rfl
                all_goals
                  go_enter Tryz.func100, Tryz.ntmps100
                  go_wp2_with fail
                  go_ret
                  exact ⟨ret_bool (by rw [← HZ4.out, HX.out, G4.out, HD.out, decide_eq_false G6.out]; rfl), rfl⟩
        · have hbi : ¬ (K : Int) < (s.size : Int) := by omega
          clear hy
          rcases g3 with rfl | rfl
          all_goals
            go_enter Tryz.func100, Tryz.ntmps100
            go_wp2_with fail
            go_ret
            exact ⟨ret_bool (by rw [← HZ4.out, AA.out.noDig 0 (by omega), AA.out.noDot 0 (by omega)]; rfl), rfl⟩
      · have t43 : (cp == 43) = false := beq_eq_false_iff_ne.2 (fun e => g3 (.inl e))
        have t45 : (cp == 45) = false := beq_eq_false_iff_ne.2 (fun e => g3 (.inr e))
        have hfin := HZ3.out
        rw [if_neg g3] at hfin
        subst hfin
        clear HZ3 g3 AA
        by_cases g4 : 48 ≤ cp
        · have g5 : ¬ cp ≤ 57 := fun hh => g1 ⟨g4, hh⟩
          clear g1
          go_enter Tryz.func100, Tryz.ntmps100
          go_wp2_with fail
          go_ret
          exact ⟨rfl, rfl⟩
        · clear g1
          go_enter Tryz.func100, Tryz.ntmps100
          go_wp2_with fail
          go_ret
          exact ⟨rfl, rfl⟩
end Go.Proofs.YtmgkccnfhkcncaaGreatDoor
