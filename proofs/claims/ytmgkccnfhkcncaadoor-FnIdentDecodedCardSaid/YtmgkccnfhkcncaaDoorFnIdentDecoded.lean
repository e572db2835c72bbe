/-
  FnIdentDecoded: every plain name of at most 32768 bytes, written as an identifier, a name or a unit, is decoded as this name (for all other texts the statement says true). No condition.
-/
import Derived.Test.YtmgkccnfhkcncaaDoorDecoded
import Derived.Test.YtmgkccnfhkcncaaDoorPlain
namespace Go.Proofs.YtmgkccnfhkcncaaDoor.fnIdentDecoded
open Go.RowKit

set_option maxHeartbeats 2000000 in
set_option maxRecDepth 100000 in
theorem walk (a0 : ByteArray) (w : World) (w0 : a0.size ≤ maxLen) (hT : Lib.Utf8Tabs 0 1 w) :
    Calls Tryd.prog 8 #[.string a0] w fun e w' => e = .returned (.bool true) ∧ Below w.heap.size w w' := by
  unfold maxLen at w0
  by_cases h1 : a0.size ≤ 2147483647
  · have N := Lib.hid (fun w => lnamed a0 w)
    obtain ⟨b, hb⟩ : ∃ b, (decide (a0.size ≤ 32768) && (decide (a0.size ≠ 0) && plainL (120 :: a0.data.toList))) = b := ⟨_, rfl⟩
    rw [hb] at N
    cases b
    · clear hb hT
      go_enter Tryd.func8, Tryd.ntmps8
      go_wp2_with (go_at_call 19; refine (N.out _).mono ?_; rintro e w' ⟨rfl, rfl⟩)
      go_ret
      exact ⟨rfl, Below.refl _ _⟩
    · simp only [Bool.and_eq_true, decide_eq_true_eq] at hb
      obtain ⟨h2, h3, h4⟩ := hb
      obtain ⟨l, hd, hl⟩ := plainL_x h4
      have hll : l.length ≤ 32768 := by have := encs_len_le l; rw [← size_of hd] at this; omega
      obtain ⟨c, t, rfl⟩ : ∃ c t, l = c :: t := by
        cases l with
        | nil => exact absurd (size_of hd) (by simpa [encs] using h3)
        | cons c t => exact ⟨c, t, rfl⟩
      have e0 : a0 = strOf (c :: t) := eq_strOf hd
      subst e0
      have A := Lib.hid (fun w => identX (strOf (c :: t)) w (by omega) (c :: t) hl rfl)
      have B := Lib.hid (fun w => nameX (strOf (c :: t)) w (by omega) (c :: t) hl rfl)
      have C := Lib.hid (fun w => unitX (strOf (c :: t)) w (by omega) c t hl rfl)
      have z1 := identC_len (c :: t) hl
      have z2 := nameC_len (c :: t) hl
      have z3 := unitC_len (c :: t) hl
      have y1 := strOf_size (identC (c :: t))
      have y2 := strOf_size (nameC (c :: t))
      have y3 := strOf_size (unitC (c :: t))
      have D1 := Lib.hid (fun w hT => implDecoded (strOf (identC (c :: t))) _ w rfl (identC_cp _ hl) (by omega) hT)
      have D2 := Lib.hid (fun w hT => implDecoded (strOf (nameC (c :: t))) _ w rfl (nameC_cp _ hl) (by omega) hT)
      have D3 := Lib.hid (fun w hT => implDecoded (strOf (unitC (c :: t))) _ w rfl (unitC_cp _ hl) (by omega) hT)
      rw [decP_identC _ hl] at D1
      rw [decP_nameC _ hl] at D2
      rw [decP_unitC _ hl] at D3
      generalize strOf (identC (c :: t)) = s1 at A D1
      generalize strOf (nameC (c :: t)) = s2 at B D2
      generalize strOf (unitC (c :: t)) = s3 at C D3
      generalize strOf (c :: t) = s0 at A B C D1 D2 D3 N h1 w0
      have T := Lib.hid hT
      clear hT hd hl h2 h3 h4 z1 z2 z3 y1 y2 y3 hll
      go_enter Tryd.func8, Tryd.ntmps8
      go_wp2_with (first | (go_at_call 19; refine (N.out _).mono ?_; rintro e w' ⟨rfl, rfl⟩) | (go_at_call 20; refine (A.out _).mono ?_; rintro e w' ⟨rfl, rfl⟩))
      refine (D1.out _ T.out).mono ?_
      rintro e w1 ⟨rfl, hb1⟩
      go_wp2_with (go_at_call 21; refine (B.out _).mono ?_; rintro e w' ⟨rfl, rfl⟩)
      refine (D2.out _ (Utf8Tabs_below T.out hb1)).mono ?_
      rintro e w2 ⟨rfl, hb2⟩
      have hb12 := hb1.trans (hb2.mono hb1.size)
      go_wp2_with fail
      refine (C.out _).mono ?_
      rintro e w3 ⟨rfl, hb3⟩
      have hb13 := hb12.trans (hb3.mono hb12.size)
      go_wp2_with fail
      refine (D3.out _ (Utf8Tabs_below T.out hb13)).mono ?_
      rintro e w4 ⟨rfl, hb4⟩
      go_wp2_with fail
      go_ret
      exact ⟨rfl, hb13.trans (hb4.mono hb13.size)⟩
  · go_enter Tryd.func8, Tryd.ntmps8
    go_wp2
    go_ret
    exact ⟨rfl, Below.refl _ _⟩
end Go.Proofs.YtmgkccnfhkcncaaDoor.fnIdentDecoded
