/-
  The contracts of the functions on one code point: each computes, and leaves the world as it was. The lexer's own predicates on one code point: isHex, isWhitespace, isNewline, IsNameContinue, isNonPrintable.
-/
import Derived.Test.YtmgkccnfhkcncaaGreatDoorMA
import Derived.Test.YtmgkccnfhkcncaaGreatDoorProg
import Derived.WalkKit
import Derived.Lib.Hide
namespace Go.Proofs.YtmgkccnfhkcncaaGreatDoor
open Go.RowKit

theorem ret_bool {a b : Bool} (h : a = b) : Ending.returned (.bool a) = .returned (.bool b) := by rw [h]
theorem ret_int {k : IntKind} {a b : Int} (h : a = b) : Ending.returned (.int k a) = .returned (.int k b) := by rw [h]

def nsB (c : Int) : Bool := decide ((97 ≤ c ∧ c ≤ 122) ∨ (65 ≤ c ∧ c ≤ 90) ∨ c = 95 ∨ 128 ≤ c ∨ c = 0)
def ssB (c : Int) : Bool := decide ((97 ≤ c ∧ c ≤ 122) ∨ (65 ≤ c ∧ c ≤ 90) ∨ c = 95 ∨ 128 ≤ c)
def dgB (c : Int) : Bool := decide (48 ≤ c ∧ c ≤ 57)
def ctlB (c : Int) : Bool := decide ((1 ≤ c ∧ c ≤ 31) ∨ c = 127)
def nlB (c : Int) : Bool := decide (c = 10 ∨ c = 13 ∨ c = 12)
def spB (c : Int) : Bool := decide (c = 10 ∨ c = 13 ∨ c = 12 ∨ c = 9 ∨ c = 32)
def unpB (c : Int) : Bool := decide ((0 ≤ c ∧ c ≤ 8) ∨ c = 11 ∨ (14 ≤ c ∧ c ≤ 31) ∨ c = 127)
def ncB (c : Int) : Bool := nsB c || dgB c || decide (c = 45)
def scB (c : Int) : Bool := ssB c || dgB c || decide (c = 45)
def escZ (a b : Int) : Bool := decide (a = 92) && !nlB b
/-- The value of a hexadecimal digit; -1: it is none. -/
def hexZ (c : Int) : Int := if 48 ≤ c ∧ c ≤ 57 then c - 48 else if 97 ≤ c ∧ c ≤ 102 then c - 87 else if 65 ≤ c ∧ c ≤ 70 then c - 55 else -1

theorem ns_ss {c : Int} (h : 1 ≤ c) : nsB c = ssB c := by
  unfold nsB ssB; rw [Bool.eq_iff_iff, decide_eq_true_iff, decide_eq_true_iff]; omega
theorem ss_nat (c : Nat) : ssB (c : Int) = starts c := by
  unfold ssB starts; rw [Bool.eq_iff_iff, decide_eq_true_iff, decide_eq_true_iff]; omega
theorem ns_nat (c : Nat) (h : 1 ≤ c) : nsB (c : Int) = starts c := by rw [ns_ss (by omega), ss_nat]
theorem dg_nat (c : Nat) : dgB (c : Int) = isDg c := by
  unfold dgB isDg; rw [Bool.eq_iff_iff, decide_eq_true_iff, decide_eq_true_iff]; omega
theorem sc_nat (c : Nat) : scB (c : Int) = conts c := by
  unfold scB ssB dgB conts; rw [Bool.eq_iff_iff, decide_eq_true_iff]; simp only [Bool.or_eq_true, decide_eq_true_eq]; omega
theorem nc_nat (c : Nat) (h : 1 ≤ c) : ncB (c : Int) = conts c := by
  rw [← sc_nat]; unfold ncB scB; rw [ns_ss (by omega)]
theorem ctl_nat (c : Nat) : ctlB (c : Int) = isCtl c := by
  unfold ctlB isCtl; rw [Bool.eq_iff_iff, decide_eq_true_iff, decide_eq_true_iff]; omega
theorem nl_nat (c : Nat) : nlB (c : Int) = isNl c := by
  unfold nlB isNl; rw [Bool.eq_iff_iff, decide_eq_true_iff]; simp only [Bool.or_eq_true, beq_iff_eq]; omega
theorem sp_nat (c : Nat) : spB (c : Int) = isWs c := by
  unfold spB isWs; rw [Bool.eq_iff_iff, decide_eq_true_iff]; simp only [Bool.or_eq_true, beq_iff_eq]; omega
theorem hex_nat (c : Nat) : hexZ (c : Int) = match hexv c with | some v => (v : Int) | none => -1 := by
  unfold hexZ hexv
  by_cases h1 : 48 ≤ c ∧ c ≤ 57
  · rw [if_pos (by omega), if_pos h1]; exact (Int.ofNat_sub h1.1).symm
  · rw [if_neg (by omega), if_neg h1]
    by_cases h2 : 97 ≤ c ∧ c ≤ 102
    · rw [if_pos (by omega), if_pos h2]; exact (Int.ofNat_sub (show 87 ≤ c from by omega)).symm
    · rw [if_neg (by omega), if_neg h2]
      by_cases h3 : 65 ≤ c ∧ c ≤ 70
      · rw [if_pos (by omega), if_pos h3]; exact (Int.ofNat_sub (show 55 ≤ c from by omega)).symm
      · rw [if_neg (by omega), if_neg h3]

set_option maxHeartbeats 400000 in
theorem isNameStart (c : Int) (w : World) : Calls Tryz.prog 47 #[.int .i32 c] w fun e w' => e = .returned (.bool (nsB c)) ∧ w = w' := by
  go_enter Tryz.func47, Tryz.ntmps47
  go_wp2
  all_goals
    go_ret
    exact ⟨ret_bool (by unfold nsB; first | exact (decide_eq_true (by omega)).symm | exact (decide_eq_false (by omega)).symm | (rw [Bool.eq_iff_iff]; simp; omega)), rfl⟩

set_option maxHeartbeats 400000 in
theorem specStarts (c : Int) (w : World) : Calls Tryz.prog 63 #[.int .i64 c] w fun e w' => e = .returned (.bool (ssB c)) ∧ w = w' := by
  go_enter Tryz.func63, Tryz.ntmps63
  go_wp2
  all_goals
    go_ret
    exact ⟨ret_bool (by unfold ssB; first | exact (decide_eq_true (by omega)).symm | exact (decide_eq_false (by omega)).symm | (rw [Bool.eq_iff_iff]; simp; omega)), rfl⟩

theorem specDigit (c : Int) (w : World) : Calls Tryz.prog 41 #[.int .i64 c] w fun e w' => e = .returned (.bool (dgB c)) ∧ w = w' := by
  go_enter Tryz.func41, Tryz.ntmps41
  go_wp2
  all_goals
    go_ret
    exact ⟨ret_bool (by unfold dgB; first | exact (decide_eq_true (by omega)).symm | exact (decide_eq_false (by omega)).symm | (rw [Bool.eq_iff_iff]; simp; omega)), rfl⟩

set_option maxHeartbeats 400000 in
theorem specControl (c : Int) (w : World) : Calls Tryz.prog 40 #[.int .i64 c] w fun e w' => e = .returned (.bool (ctlB c)) ∧ w = w' := by
  go_enter Tryz.func40, Tryz.ntmps40
  go_wp2
  all_goals
    go_ret
    exact ⟨ret_bool (by unfold ctlB; first | exact (decide_eq_true (by omega)).symm | exact (decide_eq_false (by omega)).symm | (rw [Bool.eq_iff_iff]; simp; omega)), rfl⟩

theorem specNewline (c : Int) (w : World) : Calls Tryz.prog 65 #[.int .i64 c] w fun e w' => e = .returned (.bool (nlB c)) ∧ w = w' := by
  go_enter Tryz.func65, Tryz.ntmps65
  go_wp2
  all_goals
    go_ret
    exact ⟨ret_bool (by unfold nlB; first | exact (decide_eq_true (by omega)).symm | exact (decide_eq_false (by omega)).symm | (rw [Bool.eq_iff_iff]; simp; omega)), rfl⟩

theorem specUnprintable (c : Int) (w : World) : Calls Tryz.prog 88 #[.int .i64 c] w fun e w' => e = .returned (.bool (unpB c)) ∧ w = w' := by
  go_enter Tryz.func88, Tryz.ntmps88
  go_wp2
  all_goals
    go_ret
    exact ⟨ret_bool (by unfold unpB; first | exact (decide_eq_true (by omega)).symm | exact (decide_eq_false (by omega)).symm | (rw [Bool.eq_iff_iff]; simp; omega)), rfl⟩

set_option maxHeartbeats 400000 in
theorem specSpace (c : Int) (w : World) : Calls Tryz.prog 45 #[.int .i64 c] w fun e w' => e = .returned (.bool (spB c)) ∧ w = w' := by
  obtain ⟨s, hs⟩ : ∃ s, nlB c = s := ⟨_, rfl⟩
  have cS := specNewline c
  have hfin : ∀ b : Bool, b = (s || decide (c = 9) || decide (c = 32)) → b = spB c := by
    rintro b rfl; rw [← hs]; unfold nlB spB; rw [Bool.eq_iff_iff]; simp only [Bool.or_eq_true, decide_eq_true_eq]; omega
  rw [hs] at cS
  have H := Lib.hid hfin
  have C := Lib.hid cS
  clear hfin cS hs
  cases s
  all_goals
    go_enter Tryz.func45, Tryz.ntmps45
    go_wp2_with (go_at_call 65; refine (C.out _).mono ?_; rintro e w' ⟨rfl, rfl⟩)
    all_goals
      go_ret
      exact ⟨ret_bool (H.out _ (by first | rfl | (rw [Bool.eq_iff_iff]; simp; done) | (rw [Bool.eq_iff_iff]; simp; omega))), rfl⟩

set_option maxHeartbeats 400000 in
theorem specEscapes (a b : Int) (w : World) : Calls Tryz.prog 52 #[.int .i64 a, .int .i64 b] w fun e w' => e = .returned (.bool (escZ a b)) ∧ w = w' := by
  obtain ⟨s, hs⟩ : ∃ s, nlB b = s := ⟨_, rfl⟩
  have cS := specNewline b
  have hfin : ∀ x : Bool, x = (decide (a = 92) && !s) → x = escZ a b := by rintro x rfl; unfold escZ; rw [hs]
  rw [hs] at cS
  have H := Lib.hid hfin
  have C := Lib.hid cS
  clear hfin cS hs
  by_cases h : a = 92
  · subst h
    cases s
    all_goals
      go_enter Tryz.func52, Tryz.ntmps52
      go_wp2_with (go_at_call 65; refine (C.out _).mono ?_; rintro e w' ⟨rfl, rfl⟩)
      go_ret
      exact ⟨ret_bool (H.out _ rfl), rfl⟩
  · have h92 : ((a : Int) == 92) = false := beq_eq_false_iff_ne.2 h
    have hx : false = escZ a b := H.out _ (by rw [decide_eq_false h]; rfl)
    have X := Lib.hid hx
    clear hx H
    go_enter Tryz.func52, Tryz.ntmps52
    go_wp2_with (go_at_call 65; refine (C.out _).mono ?_; rintro e w' ⟨rfl, rfl⟩)
    go_ret
    exact ⟨ret_bool X.out, rfl⟩

set_option maxHeartbeats 400000 in
theorem specContinues (c : Int) (w : World) : Calls Tryz.prog 43 #[.int .i64 c] w fun e w' => e = .returned (.bool (scB c)) ∧ w = w' := by
  obtain ⟨s, hs⟩ : ∃ s, ssB c = s := ⟨_, rfl⟩
  obtain ⟨d, hd⟩ : ∃ d, dgB c = d := ⟨_, rfl⟩
  have cS := specStarts c
  have cD := specDigit c
  have hfin : ∀ b : Bool, b = (s || d || decide (c = 45)) → b = scB c := by rintro b rfl; unfold scB; rw [hs, hd]
  rw [hs] at cS
  rw [hd] at cD
  have H := Lib.hid hfin
  have C := Lib.hid cS
  have D := Lib.hid cD
  clear hfin cS cD hs hd
  cases s <;> cases d
  all_goals
    go_enter Tryz.func43, Tryz.ntmps43
    go_wp2_with (first | (go_at_call 63; refine (C.out _).mono ?_; rintro e w' ⟨rfl, rfl⟩) | (go_at_call 41; refine (D.out _).mono ?_; rintro e w' ⟨rfl, rfl⟩))
    all_goals
      go_ret
      exact ⟨ret_bool (H.out _ (by first | rfl | (rw [Bool.eq_iff_iff]; simp; done) | (rw [Bool.eq_iff_iff]; simp; omega))), rfl⟩

set_option maxHeartbeats 400000 in
theorem specHex (c : Int) (w : World) (h0 : -9223372036854775000 ≤ c) : Calls Tryz.prog 86 #[.int .i64 c] w fun e w' => e = .returned (.int .i64 (hexZ c)) ∧ w = w' := by
  obtain ⟨d, hd⟩ : ∃ d, dgB c = d := ⟨_, rfl⟩
  have cD := specDigit c
  rw [hd] at cD
  have D := Lib.hid cD
  clear cD
  rcases (by omega : (48 ≤ c ∧ c ≤ 57) ∨ (97 ≤ c ∧ c ≤ 102) ∨ (65 ≤ c ∧ c ≤ 70) ∨ ¬ ((48 ≤ c ∧ c ≤ 57) ∨ (97 ≤ c ∧ c ≤ 102) ∨ (65 ≤ c ∧ c ≤ 70))) with h | h | h | h
  · have e : hexZ c = c - 48 := by unfold hexZ; rw [if_pos h]
    have ed : d = true := by rw [← hd]; exact decide_eq_true h
    subst ed
    rw [e]
    clear hd e
    go_enter Tryz.func86, Tryz.ntmps86
    go_wp2_with (go_at_call 41; refine (D.out _).mono ?_; rintro e w' ⟨rfl, rfl⟩)
    go_ret
    exact ⟨rfl, rfl⟩
  · have e : hexZ c = c - 87 := by unfold hexZ; rw [if_neg (by omega), if_pos h]
    have ed : d = false := by rw [← hd]; exact decide_eq_false (by omega)
    subst ed
    rw [e]
    clear hd e
    go_enter Tryz.func86, Tryz.ntmps86
    go_wp2_with (go_at_call 41; refine (D.out _).mono ?_; rintro e w' ⟨rfl, rfl⟩)
    go_ret
    exact ⟨ret_int (by omega), rfl⟩
  · have e : hexZ c = c - 55 := by unfold hexZ; rw [if_neg (by omega), if_neg (by omega), if_pos h]
    have ed : d = false := by rw [← hd]; exact decide_eq_false (by omega)
    subst ed
    rw [e]
    clear hd e
    go_enter Tryz.func86, Tryz.ntmps86
    go_wp2_with (go_at_call 41; refine (D.out _).mono ?_; rintro e w' ⟨rfl, rfl⟩)
    go_ret
    exact ⟨ret_int (by omega), rfl⟩
  · have e : hexZ c = -1 := by unfold hexZ; rw [if_neg (by omega), if_neg (by omega), if_neg (by omega)]
    have ed : d = false := by rw [← hd]; exact decide_eq_false (by omega)
    subst ed
    rw [e]
    clear hd e
    go_enter Tryz.func86, Tryz.ntmps86
    go_wp2_with (go_at_call 41; refine (D.out _).mono ?_; rintro e w' ⟨rfl, rfl⟩)
    all_goals
      go_ret
      exact ⟨rfl, rfl⟩
end Go.Proofs.YtmgkccnfhkcncaaGreatDoor

namespace Go.Proofs.YtmgkccnfhkcncaaGreatDoor
open Go.RowKit

theorem hexZ_cases (c : Int) : (48 ≤ c ∧ c ≤ 57 ∧ hexZ c = c - 48) ∨ (97 ≤ c ∧ c ≤ 102 ∧ hexZ c = c - 87) ∨ (65 ≤ c ∧ c ≤ 70 ∧ hexZ c = c - 55) ∨ (¬ (48 ≤ c ∧ c ≤ 57) ∧ ¬ (97 ≤ c ∧ c ≤ 102) ∧ ¬ (65 ≤ c ∧ c ≤ 70) ∧ hexZ c = -1) := by
  unfold hexZ
  by_cases h1 : 48 ≤ c ∧ c ≤ 57
  · rw [if_pos h1]; exact .inl ⟨h1.1, h1.2, rfl⟩
  · rw [if_neg h1]
    by_cases h2 : 97 ≤ c ∧ c ≤ 102
    · rw [if_pos h2]; exact .inr (.inl ⟨h2.1, h2.2, rfl⟩)
    · rw [if_neg h2]
      by_cases h3 : 65 ≤ c ∧ c ≤ 70
      · rw [if_pos h3]; exact .inr (.inr (.inl ⟨h3.1, h3.2, rfl⟩))
      · rw [if_neg h3]; exact .inr (.inr (.inr ⟨h1, h2, h3, rfl⟩))

theorem ret_hex {a b : Int} {x : Bool} (h : a = b) : Ending.returned (.tuple #[.int .i64 a, .bool x]) = .returned (.tuple #[.int .i64 b, .bool x]) := by rw [h]

set_option maxHeartbeats 800000 in
theorem isHex_some (c : Int) (w : World) (h : 0 ≤ hexZ c) :
    Calls Tryz.prog 83 #[.int .i32 c] w fun e w' => e = .returned (.tuple #[.int .i64 (hexZ c), .bool true]) ∧ w = w' := by
  rcases hexZ_cases c with ⟨h1, h2, e⟩ | ⟨h1, h2, e⟩ | ⟨h1, h2, e⟩ | ⟨_, _, _, e⟩
  · rw [e]; clear e h
    go_enter Tryz.func83, Tryz.ntmps83
    go_wp2
    go_ret2
    exact ⟨ret_hex (by omega), rfl⟩
  · rw [e]; clear e h
    go_enter Tryz.func83, Tryz.ntmps83
    go_wp2
    go_ret2
    exact ⟨ret_hex (by omega), rfl⟩
  · rw [e]; clear e h
    go_enter Tryz.func83, Tryz.ntmps83
    go_wp2
    go_ret2
    exact ⟨ret_hex (by omega), rfl⟩
  · omega

set_option maxHeartbeats 800000 in
theorem isHex_none (c : Int) (w : World) (h : hexZ c = -1) :
    Calls Tryz.prog 83 #[.int .i32 c] w fun e w' => e = .returned (.tuple #[.int .i64 0, .bool false]) ∧ w = w' := by
  rcases hexZ_cases c with ⟨h1, h2, e⟩ | ⟨h1, h2, e⟩ | ⟨h1, h2, e⟩ | ⟨h1, h2, h3, e⟩
  · omega
  · omega
  · omega
  · clear e h
    go_enter Tryz.func83, Tryz.ntmps83
    go_wp2
    all_goals
      go_ret2
      exact ⟨rfl, rfl⟩

theorem lexSpace (c : Int) (w : World) : Calls Tryz.prog 62 #[.int .i32 c] w fun e w' => e = .returned (.bool (spB c)) ∧ w = w' := by
  by_cases h : c = 10 ∨ c = 13 ∨ c = 12 ∨ c = 9 ∨ c = 32
  · rcases h with rfl | rfl | rfl | rfl | rfl
    all_goals
      go_enter Tryz.func62, Tryz.ntmps62
      go_wp2
      go_ret
      exact ⟨rfl, rfl⟩
  · have hf : spB c = false := decide_eq_false (by omega)
    rw [hf]
    have t10 : ((c : Int) == 10) = false := beq_eq_false_iff_ne.2 (by omega)
    have t13 : ((c : Int) == 13) = false := beq_eq_false_iff_ne.2 (by omega)
    have t12 : ((c : Int) == 12) = false := beq_eq_false_iff_ne.2 (by omega)
    have t9 : ((c : Int) == 9) = false := beq_eq_false_iff_ne.2 (by omega)
    have t32 : ((c : Int) == 32) = false := beq_eq_false_iff_ne.2 (by omega)
    clear h hf
    go_enter Tryz.func62, Tryz.ntmps62
    go_wp2
    go_ret
    exact ⟨rfl, rfl⟩
theorem lexNewline (c : Int) (w : World) : Calls Tryz.prog 93 #[.int .i32 c] w fun e w' => e = .returned (.bool (nlB c)) ∧ w = w' := by
  by_cases h : c = 10 ∨ c = 13 ∨ c = 12
  · rcases h with rfl | rfl | rfl
    all_goals
      go_enter Tryz.func93, Tryz.ntmps93
      go_wp2
      go_ret
      exact ⟨rfl, rfl⟩
  · have hf : nlB c = false := decide_eq_false (by omega)
    rw [hf]
    have t10 : ((c : Int) == 10) = false := beq_eq_false_iff_ne.2 (by omega)
    have t13 : ((c : Int) == 13) = false := beq_eq_false_iff_ne.2 (by omega)
    have t12 : ((c : Int) == 12) = false := beq_eq_false_iff_ne.2 (by omega)
    clear h hf
    go_enter Tryz.func93, Tryz.ntmps93
    go_wp2
    go_ret
    exact ⟨rfl, rfl⟩

set_option maxHeartbeats 400000 in
theorem lexContinue (c : Int) (w : World) : Calls Tryz.prog 96 #[.int .i32 c] w fun e w' => e = .returned (.bool (ncB c)) ∧ w = w' := by
  obtain ⟨s, hs⟩ : ∃ s, nsB c = s := ⟨_, rfl⟩
  have cS := isNameStart c
  have hfin : ∀ b : Bool, b = (s || dgB c || decide (c = 45)) → b = ncB c := by rintro b rfl; unfold ncB; rw [hs]
  rw [hs] at cS
  clear hs
  have H := Lib.hid hfin
  have C := Lib.hid cS
  clear hfin cS
  cases s
  · go_enter Tryz.func96, Tryz.ntmps96
    go_wp2_with (go_at_call 47; refine (C.out _).mono ?_; rintro e w' ⟨rfl, rfl⟩)
    all_goals
      go_ret
      exact ⟨ret_bool (H.out _ (by unfold dgB; rw [Bool.eq_iff_iff]; simp; omega)), rfl⟩
  · go_enter Tryz.func96, Tryz.ntmps96
    go_wp2_with (go_at_call 47; refine (C.out _).mono ?_; rintro e w' ⟨rfl, rfl⟩)
    go_ret
    exact ⟨ret_bool (H.out _ rfl), rfl⟩
end Go.Proofs.YtmgkccnfhkcncaaGreatDoor
