/-
  FnWouldStart: at every plain text of fewer than 2^31 bytes WouldStartIdentifierWithoutEscapes answers as the standard's definition does (for all other texts the statement says true). No condition.
-/
import Derived.Test.YtmgkccnfhkcncaaDoorWould
namespace Go.Proofs.YtmgkccnfhkcncaaDoor.fnWouldStart
open Go.RowKit

set_option maxHeartbeats 800000 in
set_option maxRecDepth 100000 in
theorem walk (a0 : ByteArray) (w : World) (w0 : a0.size ≤ maxLen) (hT : Lib.Utf8Tabs 0 1 w) :
    Calls Tryd.prog 3 #[.string a0] w fun e w' => e = .returned (.bool true) ∧ Below w.heap.size w w' := by
  unfold maxLen at w0
  by_cases h1 : a0.size ≤ 2147483647
  · obtain ⟨b, hb⟩ : ∃ b, plainL a0.data.toList = b := ⟨_, rfl⟩
    have I := Lib.hid (fun w => isPlain a0 w (by omega))
    rw [hb] at I
    cases b
    · clear hb hT
      go_enter Tryd.func3, Tryd.ntmps3
      go_wp2_with (go_at_call 10; refine (I.out _).mono ?_; rintro e w' ⟨rfl, rfl⟩)
      go_ret
      exact ⟨rfl, Below.refl _ _⟩
    · obtain ⟨l, hd, hl, _⟩ := plainL_cps hb
      have A := Lib.hid (implWould a0 w (by omega) l hl hd hT)
      have B := Lib.hid (fun w => specWould a0 w (by omega) l hl hd)
      generalize wsC l = r at A B
      clear hb hT hd hl
      cases r
      all_goals
        go_enter Tryd.func3, Tryd.ntmps3
        go_wp2_with (first | (go_at_call 10; refine (I.out _).mono ?_; rintro e w' ⟨rfl, rfl⟩) | (go_at_call 11; refine (A.out).mono ?_; rintro e w1 ⟨rfl, hb⟩) | (go_at_call 12; refine (B.out _).mono ?_; rintro e w' ⟨rfl, rfl⟩))
        go_ret
        exact ⟨rfl, hb⟩
  · go_enter Tryd.func3, Tryd.ntmps3
    go_wp2
    go_ret
    exact ⟨rfl, Below.refl _ _⟩
end Go.Proofs.YtmgkccnfhkcncaaDoor.fnWouldStart
