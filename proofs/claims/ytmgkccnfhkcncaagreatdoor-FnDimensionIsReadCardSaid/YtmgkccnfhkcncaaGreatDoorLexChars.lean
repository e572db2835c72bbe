/-
  The lexer's own predicates on one code point: isHex, isWhitespace, isNewline, IsNameContinue, isNonPrintable.
-/
import Derived.Test.YtmgkccnfhkcncaaGreatDoorChars
namespace Go.Proofs.YtmgkccnfhkcncaaGreatDoor
open Go.RowKit

theorem hexZ_cases (c : Int) : (48 ≤ c ∧ c ≤ 57 ∧ hexZ c = c - 48) ∨ (97 ≤ c ∧ c ≤ 102 ∧ hexZ c = c - 87) ∨ (65 ≤ c ∧ c ≤ 70 ∧ hexZ c = c - 55) ∨ (¬ (48 ≤ c ∧ c ≤ 57) ∧ ¬ (97 ≤ c ∧ c ≤ 102) ∧ ¬ (65 ≤ c ∧ c ≤ 70) ∧ hexZ c = -1) := by
  unfold hexZ
  by_cases h1 : 48 ≤ c ∧ c ≤ 57
  · rw [if_pos h1]; exact .inl ⟨h1.1, h1.2, rfl⟩
  · rw [if_neg h1]
    by_cases h2 : 97 ≤ c ∧ c ≤ 102
    · rw [if_pos h2]; exact .inr (.inl ⟨h2.1, h2.2, rfl⟩)
    · rw [if_neg h2]
      by_cases h3 : 65 ≤ c ∧ c ≤ 70
      · rw [if_pos h3]; exact .inr (.inr (.inl ⟨h3.1, h3.2, rfl⟩))
      · rw [if_neg h3]; exact .inr (.inr (.inr ⟨h1, h2, h3, rfl⟩))

theorem ret_hex {a b : Int} {x : Bool} (h : a = b) : Ending.returned (.tuple #[.int .i64 a, .bool x]) = .returned (.tuple #[.int .i64 b, .bool x]) := by rw [h]

set_option maxHeartbeats 800000 in
theorem isHex_some (c : Int) (w : World) (h : 0 ≤ hexZ c) :
    Calls Tryz.prog 83 #[.int .i32 c] w fun e w' => e = .returned (.tuple #[.int .i64 (hexZ c), .bool true]) ∧ w = w' := by
  rcases hexZ_cases c with ⟨h1, h2, e⟩ | ⟨h1, h2, e⟩ | ⟨h1, h2, e⟩ | ⟨_, _, _, e⟩
  · rw [e]; clear e h
    go_enter Tryz.func83, Tryz.ntmps83
    go_wp2
    go_ret2
    exact ⟨ret_hex (by omega), rfl⟩
  · rw [e]; clear e h
    go_enter Tryz.func83, Tryz.ntmps83
    go_wp2
    go_ret2
    exact ⟨ret_hex (by omega), rfl⟩
  · rw [e]; clear e h
    go_enter Tryz.func83, Tryz.ntmps83
    go_wp2
    go_ret2
    exact ⟨ret_hex (by omega), rfl⟩
  · omega

set_option maxHeartbeats 800000 in
theorem isHex_none (c : Int) (w : World) (h : hexZ c = -1) :
    Calls Tryz.prog 83 #[.int .i32 c] w fun e w' => e = .returned (.tuple #[.int .i64 0, .bool false]) ∧ w = w' := by
  rcases hexZ_cases c with ⟨h1, h2, e⟩ | ⟨h1, h2, e⟩ | ⟨h1, h2, e⟩ | ⟨h1, h2, h3, e⟩
  · omega
  · omega
  · omega
  · clear e h
    go_enter Tryz.func83, Tryz.ntmps83
    go_wp2
    all_goals
      go_ret2
      exact ⟨rfl, rfl⟩

theorem lexSpace (c : Int) (w : World) : Calls Tryz.prog 62 #[.int .i32 c] w fun e w' => e = .returned (.bool (spB c)) ∧ w = w' := by
  by_cases h : c = 10 ∨ c = 13 ∨ c = 12 ∨ c = 9 ∨ c = 32
  · rcases h with rfl | rfl | rfl | rfl | rfl
    all_goals
      go_enter Tryz.func62, Tryz.ntmps62
      go_wp2
      go_ret
      exact ⟨rfl, rfl⟩
  · have hf : spB c = false := decide_eq_false (by omega)
    rw [hf]
    have t10 : ((c : Int) == 10) = false := beq_eq_false_iff_ne.2 (by omega)
    have t13 : ((c : Int) == 13) = false := beq_eq_false_iff_ne.2 (by omega)
    have t12 : ((c : Int) == 12) = false := beq_eq_false_iff_ne.2 (by omega)
    have t9 : ((c : Int) == 9) = false := beq_eq_false_iff_ne.2 (by omega)
    have t32 : ((c : Int) == 32) = false := beq_eq_false_iff_ne.2 (by omega)
    clear h hf
    go_enter Tryz.func62, Tryz.ntmps62
    go_wp2
    go_ret
    exact ⟨rfl, rfl⟩
theorem lexNewline (c : Int) (w : World) : Calls Tryz.prog 93 #[.int .i32 c] w fun e w' => e = .returned (.bool (nlB c)) ∧ w = w' := by
  by_cases h : c = 10 ∨ c = 13 ∨ c = 12
  · rcases h with rfl | rfl | rfl
    all_goals
      go_enter Tryz.func93, Tryz.ntmps93
      go_wp2
      go_ret
      exact ⟨rfl, rfl⟩
  · have hf : nlB c = false := decide_eq_false (by omega)
    rw [hf]
    have t10 : ((c : Int) == 10) = false := beq_eq_false_iff_ne.2 (by omega)
    have t13 : ((c : Int) == 13) = false := beq_eq_false_iff_ne.2 (by omega)
    have t12 : ((c : Int) == 12) = false := beq_eq_false_iff_ne.2 (by omega)
    clear h hf
    go_enter Tryz.func93, Tryz.ntmps93
    go_wp2
    go_ret
    exact ⟨rfl, rfl⟩

set_option maxHeartbeats 400000 in
theorem lexContinue (c : Int) (w : World) : Calls Tryz.prog 96 #[.int .i32 c] w fun e w' => e = .returned (.bool (ncB c)) ∧ w = w' := by
  obtain ⟨s, hs⟩ : ∃ s, nsB c = s := ⟨_, rfl⟩
  have cS := isNameStart c
  have hfin : ∀ b : Bool, b = (s || dgB c || decide (c = 45)) → b = ncB c := by rintro b rfl; unfold ncB; rw [hs]
  rw [hs] at cS
  clear hs
  have H := Lib.hid hfin
  have C := Lib.hid cS
  clear hfin cS
  cases s
  · go_enter Tryz.func96, Tryz.ntmps96
    go_wp2_with (go_at_call 47; refine (C.out _).mono ?_; rintro e w' ⟨rfl, rfl⟩)
    all_goals
      go_ret
      exact ⟨ret_bool (H.out _ (by unfold dgB; rw [Bool.eq_iff_iff]; simp; omega)), rfl⟩
  · go_enter Tryz.func96, Tryz.ntmps96
    go_wp2_with (go_at_call 47; refine (C.out _).mono ?_; rintro e w' ⟨rfl, rfl⟩)
    go_ret
    exact ⟨ret_bool (H.out _ rfl), rfl⟩
end Go.Proofs.YtmgkccnfhkcncaaGreatDoor
