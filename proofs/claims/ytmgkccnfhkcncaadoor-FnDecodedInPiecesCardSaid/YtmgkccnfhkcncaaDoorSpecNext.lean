/-
  The reference's lexer: does a number begin; the next token.
-/
import Derived.Test.YtmgkccnfhkcncaaDoorMathK
namespace Go.Proofs.YtmgkccnfhkcncaaDoor
open Go.RowKit

set_option maxHeartbeats 2000000 in
set_option maxRecDepth 100000 in
theorem specCounts (a b c : Int) (w : World) : Calls Tryd.prog 60 #[.int .i64 a, .int .i64 b, .int .i64 c] w fun e w' => e = .returned (.bool (countZ a b c)) ∧ w = w' := by
  by_cases h : a = 43 ∨ a = 45
  · have hf : countZ a b c = (dgB b || (decide (b = 46) && dgB c)) := if_pos h
    have D1 := Lib.hid (fun w => specDigit b w)
    have D2 := Lib.hid (fun w => specDigit c w)
    obtain ⟨x, hx⟩ : ∃ x, dgB b = x := ⟨_, rfl⟩
    obtain ⟨y, hy⟩ : ∃ x, dgB c = x := ⟨_, rfl⟩
    rw [hx] at D1 hf
    rw [hy] at D2 hf
    have HF := Lib.hid hf
    clear hx hy hf
    by_cases hb : b = 46
    · subst hb
      rcases h with rfl | rfl
      all_goals
        cases x
        · go_enter Tryd.func60, Tryd.ntmps60
          go_wp2_with fail
          refine (D1.out _).mono ?_
          rintro e w' ⟨rfl, hww⟩
          first | (obtain rfl : _ = w' := hww) | (obtain rfl : _ = w' := hww.symm)
          go_wp2_with fail
          refine (D2.out _).mono ?_
          rintro e w' ⟨rfl, hww⟩
          first | (obtain rfl : _ = w' := hww) | (obtain rfl : _ = w' := hww.symm)
          go_wp2_with fail
          go_ret
          exact ⟨ret_bool (by rw [HF.out]; simp), rfl⟩
        · go_enter Tryd.func60, Tryd.ntmps60
          go_wp2_with fail
          refine (D1.out _).mono ?_
          rintro e w' ⟨rfl, hww⟩
          first | (obtain rfl : _ = w' := hww) | (obtain rfl : _ = w' := hww.symm)
          go_wp2_with fail
          go_ret
          exact ⟨ret_bool (by rw [HF.out]; simp), rfl⟩
    · have t46 : (b == 46) = false := beq_eq_false_iff_ne.2 hb
      have HB := Lib.hid (decide_eq_false hb)
      clear hb
      rcases h with rfl | rfl
      all_goals
        cases x
        all_goals
          go_enter Tryd.func60, Tryd.ntmps60
          go_wp2_with fail
          refine (D1.out _).mono ?_
          rintro e w' ⟨rfl, hww⟩
          first | (obtain rfl : _ = w' := hww) | (obtain rfl : _ = w' := hww.symm)
          go_wp2_with fail
          go_ret
          exact ⟨ret_bool (by rw [HF.out, HB.out]; simp), rfl⟩
  · have hf : countZ a b c = (dgB a || (decide (a = 46) && dgB b)) := if_neg h
    have t43 : (a == 43) = false := beq_eq_false_iff_ne.2 (fun e => h (Or.inl e))
    have t45 : (a == 45) = false := beq_eq_false_iff_ne.2 (fun e => h (Or.inr e))
    have D1 := Lib.hid (fun w => specDigit a w)
    have D2 := Lib.hid (fun w => specDigit b w)
    obtain ⟨x, hx⟩ : ∃ x, dgB a = x := ⟨_, rfl⟩
    obtain ⟨y, hy⟩ : ∃ x, dgB b = x := ⟨_, rfl⟩
    rw [hx] at D1 hf
    rw [hy] at D2 hf
    have HF := Lib.hid hf
    clear hx hy hf h
    by_cases hb : a = 46
    · subst hb
      cases x
      · go_enter Tryd.func60, Tryd.ntmps60
        go_wp2_with fail
        refine (D1.out _).mono ?_
        rintro e w' ⟨rfl, hww⟩
        first | (obtain rfl : _ = w' := hww) | (obtain rfl : _ = w' := hww.symm)
        go_wp2_with fail
        refine (D2.out _).mono ?_
        rintro e w' ⟨rfl, hww⟩
        first | (obtain rfl : _ = w' := hww) | (obtain rfl : _ = w' := hww.symm)
        go_wp2_with fail
        go_ret
        exact ⟨ret_bool (by rw [HF.out]; simp), rfl⟩
      · go_enter Tryd.func60, Tryd.ntmps60
        go_wp2_with fail
        refine (D1.out _).mono ?_
        rintro e w' ⟨rfl, hww⟩
        first | (obtain rfl : _ = w' := hww) | (obtain rfl : _ = w' := hww.symm)
        go_wp2_with fail
        go_ret
        exact ⟨ret_bool (by rw [HF.out]; simp), rfl⟩
    · have t46 : (a == 46) = false := beq_eq_false_iff_ne.2 hb
      have HB := Lib.hid (decide_eq_false hb)
      clear hb
      cases x
      all_goals
        go_enter Tryd.func60, Tryd.ntmps60
        go_wp2_with fail
        refine (D1.out _).mono ?_
        rintro e w' ⟨rfl, hww⟩
        first | (obtain rfl : _ = w' := hww) | (obtain rfl : _ = w' := hww.symm)
        go_wp2_with fail
        go_ret
        exact ⟨ret_bool (by rw [HF.out, HB.out]; simp), rfl⟩
end Go.Proofs.YtmgkccnfhkcncaaDoor
