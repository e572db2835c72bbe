/-
  FnNameContinues: for every rune from 1 to 0x10ffff: IsNameContinue is IsNameStart or a digit or a hyphen, with which IsNameStart says no (for all others the statement says true). No condition.
  The frame (all but the walk) was written by the kit's program proof-skeleton.mjs.
-/
import Derived.Test.YtmgkccnfhkcncaaRows
import Derived.Test.YtmgkccnfhkcncaaWalks
import Derived.WalkKit
import Derived.ProofKit
import Derived.OpenShut
import Derived.ShutString
namespace Go.Proofs.Ytmgkccnfhkcncaa.fnNameContinues
open Go.ChangeShapes Go.WideShapes Go.ChangeAt Go.RowKit
open Go.ChangeMaps (open_string shut_string)
set_option linter.unusedVariables false

theorem own : ownKnob Try.prog.godebug = none := by kernel_rfl

/-! ### the walk -/
theorem walk (a0 : Int) (w0 : (Lit.int .i32 a0).wf = true) (w : World) :
    Calls Try.prog 5 #[.int .i32 a0] w fun e w' => e = .returned (.bool true) ∧ Grown w w' := by
  by_cases h1 : a0 < 1
  · go_enter Try.func5, Try.ntmps5
    go_wp2
    go_ret
    exact ⟨rfl, by repeat (first | exact Grown.refl _ | apply Grown.drew | apply Grown.alloc)⟩
  · by_cases h2 : 1114111 < a0
    · go_enter Try.func5, Try.ntmps5
      go_wp2
      go_ret
      exact ⟨rfl, by repeat (first | exact Grown.refl _ | apply Grown.drew | apply Grown.alloc)⟩
    · have cI := implContinues a0
      have cS := implStarts a0
      rcases (by omega : a0 = 45 ∨ (48 ≤ a0 ∧ a0 ≤ 57) ∨ (a0 < 48 ∧ a0 ≠ 45) ∨ 57 < a0) with h | h | h | h
      · subst h
        have C := Lib.hid cI
        have D := Lib.hid cS
        clear cI cS
        go_enter Try.func5, Try.ntmps5
        go_wp2_with (first | (go_at_call 8; refine (C.out _).mono ?_; rintro e w' ⟨rfl, rfl⟩) | (go_at_call 6; refine (D.out _).mono ?_; rintro e w' ⟨rfl, rfl⟩))
        go_ret
        exact ⟨rfl, by repeat (first | exact Grown.refl _ | apply Grown.drew | apply Grown.alloc)⟩
      · have e1 : ncB a0 = true := by unfold ncB; rw [show dgB a0 = true from decide_eq_true h]; simp
        have e2 : nsB a0 = false := decide_eq_false (by omega)
        rw [e1] at cI
        rw [e2] at cS
        have C := Lib.hid cI
        have D := Lib.hid cS
        clear cI cS e1 e2
        go_enter Try.func5, Try.ntmps5
        go_wp2_with (first | (go_at_call 8; refine (C.out _).mono ?_; rintro e w' ⟨rfl, rfl⟩) | (go_at_call 6; refine (D.out _).mono ?_; rintro e w' ⟨rfl, rfl⟩))
        go_ret
        exact ⟨rfl, by repeat (first | exact Grown.refl _ | apply Grown.drew | apply Grown.alloc)⟩
      all_goals
        have e1 : ncB a0 = nsB a0 := by unfold ncB; rw [show dgB a0 = false from decide_eq_false (by omega), show decide (a0 = 45) = false from decide_eq_false (by omega)]; simp
        rw [e1] at cI
        obtain ⟨s, hs⟩ : ∃ s, nsB a0 = s := ⟨_, rfl⟩
        rw [hs] at cI cS
        have h45 : ((a0 : Int) == 45) = false := beq_eq_false_iff_ne.2 (by omega)
        have C := Lib.hid cI
        have D := Lib.hid cS
        clear hs cI cS e1
        cases s
        all_goals
          go_enter Try.func5, Try.ntmps5
          go_wp2_with (first | (go_at_call 8; refine (C.out _).mono ?_; rintro e w' ⟨rfl, rfl⟩) | (go_at_call 6; refine (D.out _).mono ?_; rintro e w' ⟨rfl, rfl⟩))
          go_ret
          exact ⟨rfl, by repeat (first | exact Grown.refl _ | apply Grown.drew | apply Grown.alloc)⟩

/-! ### the row -/
set_option maxRecDepth 100000 in
theorem lifted (os : Os) (started : os.Started) (H : Type) (enc : TypeId × Value → H) :
    ReturnsInHanded {} Try.checked os 5 .any (Rows.fnNameContinuesSpec.pre6 enc Try.prog Try.f5 Rows.fnNameContinuesRow.domain false) (Rows.fnNameContinuesSpec.post enc Try.prog Try.f5 false true false false) := by
  refine returnsInHanded_of_change (C := Try.checked) own started (by kernel_rfl) Try.func5
    (ChangeSpec.witness6 (enc := enc) (C := Try.checked) false ⟨#[], #[.int .i32 0], []⟩ 8 (by kernel_rfl) (by kernel_rfl) (by kernel_rfl) (by kernel_rfl)) ?_
  intro W base args ds gs before hval0 hW hcnd _
  have hval : ∀ (j : Nat) t v, Try.f5.params[j]? = some t → args[j]? = some v → Value.okWide Try.prog W .any base t v := hval0
  have hW' := hW
  obtain ⟨p, q, hA0, hV, rfl, hfz, hnd⟩ := hW
  have hA : DataW.TrodAll enc Try.prog W 0 (fun _ => true) true Try.f5.params.toList args.toList ds p := hA0
  rw [Try.params5] at hA hval
  obtain ⟨v0, vs0, d0, ds0, p0, q0, hargs, rfl, rfl, h0, r0⟩ := trodAll_cons hA
  obtain ⟨rfl, rfl, rfl⟩ := trodAll_nil r0
  obtain rfl : args = #[v0] := by cases args; simp_all
  obtain ⟨rfl, rfl⟩ := trodVars_none hV
  obtain ⟨a0, rfl, rfl, rfl, w0⟩ := open_int Try.underlying21 (hval 0 21 v0 rfl rfl) h0
  clear hA0 hval0
  simp only [List.append_nil] at hW'
  refine (walk a0 w0 W).mono fun e W' ⟨he, hg⟩ => ?_
  subst he
  exact ⟨_, rfl, post_of_same (pa := []) (pv := []) hW' (fun _ _ _ => (trodAll_cons_mk (shut_bool Try.underlying4 _) trodAll_mk0)) (fun sp _ => (trodAll_cons_mk (shut_int Try.underlying21 w0) trodAll_mk0)) (fun _ _ => rfl) rfl
    (hg.frame _) hg.2.1 (ok_one (by kernel_rfl) rfl (okWide_bool_mk Try.underlying4 _))⟩

theorem over : Rows.fnNameContinuesRow.holds Try.pinned (OpenSpec.ofChange Rows.fnNameContinuesSpec) :=
  OpenClaim.holds_of_wide 5 Try.f5 rfl rfl rfl rfl rfl rfl rfl ⟨rfl, rfl, rfl, rfl, rfl⟩ rfl rfl rfl rfl rfl (by kernel_rfl) Try.func5 (by kernel_rfl)
    (of_decide_eq_true (by kernel_rfl)) (by unfold Func.isWrapper; first | (rw [if_pos (by decide +kernel)]; kernel_rfl) | (rw [if_neg (by decide +kernel)]; exact ⟨rfl, rfl⟩))
    (fun os started H enc _ => lifted os started H enc)

/-- the statement -/
theorem proved : Rows.FnNameContinuesSaid :=
  over
#print axioms proved
end Go.Proofs.Ytmgkccnfhkcncaa.fnNameContinues
