/-
  The contracts of the functions on code points: 'IsNameStart', 'IsNameContinue' of the lexer; 'Starts', 'Continues', 'isDigit' of the reference. No condition.
-/
import Derived.Test.YtmgkccnfhkcncaaRows
import Derived.WalkKit
import Derived.Lib.Hide
namespace Go.Proofs.Ytmgkccnfhkcncaa
open Go.RowKit

/-- A name can begin with it (the lexer's: 0 too). -/
def nsB (c : Int) : Bool := decide ((97 ≤ c ∧ c ≤ 122) ∨ (65 ≤ c ∧ c ≤ 90) ∨ c = 95 ∨ 128 ≤ c ∨ c = 0)
def ssB (c : Int) : Bool := decide ((97 ≤ c ∧ c ≤ 122) ∨ (65 ≤ c ∧ c ≤ 90) ∨ c = 95 ∨ 128 ≤ c)
def dgB (c : Int) : Bool := decide (48 ≤ c ∧ c ≤ 57)

theorem ret_bool {a b : Bool} (h : a = b) : Ending.returned (.bool a) = .returned (.bool b) := by rw [h]

set_option maxHeartbeats 400000 in
theorem isNameStart (c : Int) (w : World) : Calls Try.prog 10 #[.int .i32 c] w fun e w' => e = .returned (.bool (nsB c)) ∧ w = w' := by
  go_enter Try.func10, Try.ntmps10
  go_wp2
  all_goals
    go_ret
    exact ⟨ret_bool (by unfold nsB; first | exact (decide_eq_true (by omega)).symm | exact (decide_eq_false (by omega)).symm | (rw [Bool.eq_iff_iff]; simp; omega)), rfl⟩

set_option maxHeartbeats 400000 in
theorem specStarts (c : Int) (w : World) : Calls Try.prog 7 #[.int .i64 c] w fun e w' => e = .returned (.bool (ssB c)) ∧ w = w' := by
  go_enter Try.func7, Try.ntmps7
  go_wp2
  all_goals
    go_ret
    exact ⟨ret_bool (by unfold ssB; first | exact (decide_eq_true (by omega)).symm | exact (decide_eq_false (by omega)).symm | (rw [Bool.eq_iff_iff]; simp; omega)), rfl⟩

theorem isDigit (c : Int) (w : World) : Calls Try.prog 12 #[.int .i64 c] w fun e w' => e = .returned (.bool (dgB c)) ∧ w = w' := by
  go_enter Try.func12, Try.ntmps12
  go_wp2
  all_goals
    go_ret
    exact ⟨ret_bool (by unfold dgB; first | exact (decide_eq_true (by omega)).symm | exact (decide_eq_false (by omega)).symm | (rw [Bool.eq_iff_iff]; simp; omega)), rfl⟩

/-- It can go on with it. -/
def ncB (c : Int) : Bool := nsB c || dgB c || decide (c = 45)
def scB (c : Int) : Bool := ssB c || dgB c || decide (c = 45)

theorem nc_eq {b : Bool} {c : Int} (h : nsB c = false) (hb : b = (dgB c || decide (c = 45))) : b = ncB c := by
  unfold ncB; rw [h, hb]; rfl

set_option maxHeartbeats 400000 in
theorem isNameContinue (c : Int) (w : World) : Calls Try.prog 11 #[.int .i32 c] w fun e w' => e = .returned (.bool (ncB c)) ∧ w = w' := by
  obtain ⟨s, hs⟩ : ∃ s, nsB c = s := ⟨_, rfl⟩
  have cS := isNameStart c
  rw [hs] at cS
  cases s
  · have hfin : ∀ b : Bool, b = (dgB c || decide (c = 45)) → b = ncB c := fun b hb => nc_eq hs hb
    clear hs
    have H := Lib.hid hfin
    have C := Lib.hid cS
    clear hfin cS
    go_enter Try.func11, Try.ntmps11
    go_wp2_with (go_at_call 10; refine (C.out _).mono ?_; rintro e w' ⟨rfl, rfl⟩)
    all_goals
      go_ret
      exact ⟨ret_bool (H.out _ (by unfold dgB; rw [Bool.eq_iff_iff]; simp; omega)), rfl⟩
  · have hfin : true = ncB c := by unfold ncB; rw [hs]; rfl
    clear hs
    have H := Lib.hid hfin
    have C := Lib.hid cS
    clear hfin cS
    go_enter Try.func11, Try.ntmps11
    go_wp2_with (go_at_call 10; refine (C.out _).mono ?_; rintro e w' ⟨rfl, rfl⟩)
    go_ret
    exact ⟨ret_bool H.out, rfl⟩

set_option maxHeartbeats 400000 in
theorem specContinues (c : Int) (w : World) : Calls Try.prog 9 #[.int .i64 c] w fun e w' => e = .returned (.bool (scB c)) ∧ w = w' := by
  obtain ⟨s, hs⟩ : ∃ s, ssB c = s := ⟨_, rfl⟩
  obtain ⟨d, hd⟩ : ∃ d, dgB c = d := ⟨_, rfl⟩
  have cS := specStarts c
  have cD := isDigit c
  have hfin : ∀ b : Bool, b = (s || d || decide (c = 45)) → b = scB c := by rintro b rfl; unfold scB; rw [hs, hd]
  rw [hs] at cS
  rw [hd] at cD
  have H := Lib.hid hfin
  have C := Lib.hid cS
  have D := Lib.hid cD
  clear hfin cS cD hs hd
  cases s <;> cases d
  all_goals
    go_enter Try.func9, Try.ntmps9
    go_wp2_with (first | (go_at_call 7; refine (C.out _).mono ?_; rintro e w' ⟨rfl, rfl⟩) | (go_at_call 12; refine (D.out _).mono ?_; rintro e w' ⟨rfl, rfl⟩))
    all_goals
      go_ret
      exact ⟨ret_bool (H.out _ (by first | rfl | (rw [Bool.eq_iff_iff]; simp))), rfl⟩

theorem implStarts (c : Int) (w : World) : Calls Try.prog 6 #[.int .i32 c] w fun e w' => e = .returned (.bool (nsB c)) ∧ w = w' := by
  have C := Lib.hid (isNameStart c)
  go_enter Try.func6, Try.ntmps6
  go_wp2_with (go_at_call 10; refine (C.out _).mono ?_; rintro e w' ⟨rfl, rfl⟩)
  go_ret
  exact ⟨rfl, rfl⟩
theorem implContinues (c : Int) (w : World) : Calls Try.prog 8 #[.int .i32 c] w fun e w' => e = .returned (.bool (ncB c)) ∧ w = w' := by
  have C := Lib.hid (isNameContinue c)
  go_enter Try.func8, Try.ntmps8
  go_wp2_with (go_at_call 11; refine (C.out _).mono ?_; rintro e w' ⟨rfl, rfl⟩)
  go_ret
  exact ⟨rfl, rfl⟩

theorem ns_ss {c : Int} (h : 1 ≤ c) : nsB c = ssB c := by
  unfold nsB ssB; rw [Bool.eq_iff_iff, decide_eq_true_iff, decide_eq_true_iff]; omega
theorem nc_sc {c : Int} (h : 1 ≤ c) : ncB c = scB c := by unfold ncB scB; rw [ns_ss h]
end Go.Proofs.Ytmgkccnfhkcncaa
