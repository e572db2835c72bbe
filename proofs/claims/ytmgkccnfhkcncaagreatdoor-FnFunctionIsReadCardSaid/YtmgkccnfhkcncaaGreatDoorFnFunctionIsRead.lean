/-
  FnFunctionIsRead: every plain name of at most 32768 bytes but url that does not begin with a byte order mark, written as an identifier ahead of a bracket, is read as the function of this name (for all other texts the statement says true). No condition.
-/
import Derived.Test.YtmgkccnfhkcncaaGreatDoorOneX
import Derived.Test.YtmgkccnfhkcncaaGreatDoorMark
namespace Go.Proofs.YtmgkccnfhkcncaaGreatDoor.fnFunctionIsRead
open Go.RowKit
attribute [local go_sem ↓] Go.wp_at_zero Go.wp_at_succ

set_option maxHeartbeats 8000000 in
set_option maxRecDepth 1000000 in
theorem walk (a0 : ByteArray) (w : World) (w0 : a0.size ≤ maxLen) (hT : Lib.Utf8Tabs 0 1 w) :
    Calls Tryz.prog 9 #[.string a0] w fun e w' => e = .returned (.bool true) ∧ Below w.heap.size w w' := by
  unfold maxLen at w0
  by_cases h1 : a0.size ≤ 2147483647
  · have WK := Lib.hid (fun w hT => wakesI w hT)
    have T := Lib.hid hT
    have N := Lib.hid (fun w => lnamed a0 w)
    obtain ⟨b, hb⟩ : ∃ b, (decide (a0.size ≤ 32768) && (decide (a0.size ≠ 0) && plainL (120 :: a0.data.toList))) = b := ⟨_, rfl⟩
    rw [hb] at N
    cases b
    · clear hb hT
      go_enter Tryz.func9, Tryz.ntmps9
      go_wp2_with (first | (go_at_call 19; refine (N.out _).mono ?_; rintro e w' ⟨rfl, rfl⟩))
      refine (WK.out _ T.out).mono ?_
      rintro e w1 ⟨rfl, hb1⟩
      go_wp2_with fail
      go_ret
      exact ⟨rfl, hb1⟩
    · simp only [Bool.and_eq_true, decide_eq_true_eq] at hb
      obtain ⟨h2, h3, h4⟩ := hb
      obtain ⟨l, hd, hl⟩ := plainL_x h4
      have hll : l.length ≤ 32768 := by have := encs_len_le l; rw [← size_of hd] at this; omega
      have hne : l ≠ [] := by
        rintro rfl
        exact absurd (size_of hd) (by simpa [encs] using h3)
      have e0 : a0 = strOf l := eq_strOf hd
      subst e0
      have M := Lib.hid (fun w => hasMark (strOf l) w (by omega))
      obtain ⟨mk, hmk⟩ : ∃ x, markB (strOf l).data.toList = x := ⟨_, rfl⟩
      rw [hmk] at M
      cases mk
      · have hf := mark_first l hmk
        have U := Lib.hid (fun w => isURLX (strOf l) w (by omega))
        obtain ⟨ur, hur⟩ : ∃ x, isUrlB (strOf l).data.toList = x := ⟨_, rfl⟩
        rw [hur] at U
        cases ur
        · have hu : isUrlC l = false := by rw [← isUrl_encs l hl]; exact hur
          have A := Lib.hid (fun w => identX (strOf l) w (by omega) l hl rfl)
          have z1 := identC_len l hl
          have y1 := strOf_size (identC l)
          have icp := identC_cp l hl
          have idp := decP_identC l hl
          have ine : identC l ≠ [] := by have := nx_identC l hl hne; intro e; rw [e] at this; exact absurd this (by decide)
          have e1 : strOf (identC l) ++ (⟨#[40]⟩ : ByteArray) = strOf (identC l ++ [40]) := snoc_strOf _ 40 (by decide)
          have y2 := strOf_size (identC l ++ [40])
          have hb1 := ident_first l hl hf [40] (by decide)
          have O := Lib.hid (fun w hT => oneX (identC l ++ [40]) (fun c hc => by
            rcases List.mem_append.1 hc with hc | hc
            · exact icp c hc
            · simp at hc; subst hc; unfold Cp; omega) 27 0 0 (strOf l) w hT (by simp only [List.length_append, List.length_cons, List.length_nil] at y2; omega) hb1 (by simp) (nx_function l hl hne hu) (by decide) (by decide) (by decide) ⟨fun _ => by rw [encs_append, encs_one, enc_ascii 40 (by omega)]; simp, by omega, by omega⟩ (.inl rfl) (dec_fun _ l 40 (by omega) icp idp))
          rw [← e1] at O
          have hz1 : (strOf (identC l)).size ≤ 1048576 := by omega
          obtain ⟨s1, hs1⟩ : ∃ x, strOf (identC l) = x := ⟨_, rfl⟩
          obtain ⟨s0, hs0⟩ : ∃ x, strOf l = x := ⟨_, rfl⟩
          rw [hs1] at A O hz1
          rw [hs0] at A O M N U w0 h1 ⊢
          clear hmk hf hur hu hb1 z1 y1 y2 e1 icp idp ine hs1 hs0
          clear hT hd hl h2 h3 h4 hll hne
          go_enter Tryz.func9, Tryz.ntmps9
          go_wp2_with (first | (go_at_call 19; refine (N.out _).mono ?_; rintro e w' ⟨rfl, rfl⟩) | (go_at_call 16; refine (M.out _).mono ?_; rintro e w' ⟨rfl, rfl⟩) | (go_at_call 29; refine (U.out _).mono ?_; rintro e w' ⟨rfl, rfl⟩) | (go_at_call 21; refine (A.out _).mono ?_; rintro e w' ⟨rfl, rfl⟩))
          refine (O.out _ T.out).mono ?_
          rintro e w1 ⟨rfl, hb1⟩
          go_wp2_with fail
          refine (WK.out _ (Utf8Tabs_below T.out (hb1.alloc hb1.size _))).mono ?_
          rintro e w2 ⟨rfl, hb2⟩
          go_wp2_with fail
          go_ret
          exact ⟨rfl, (hb1.alloc hb1.size _).trans (hb2.mono (hb1.alloc hb1.size _).size)⟩
        · clear hmk hf hur hT hd hl h2 h3 h4 hll hne
          go_enter Tryz.func9, Tryz.ntmps9
          go_wp2_with (first | (go_at_call 19; refine (N.out _).mono ?_; rintro e w' ⟨rfl, rfl⟩) | (go_at_call 16; refine (M.out _).mono ?_; rintro e w' ⟨rfl, rfl⟩) | (go_at_call 29; refine (U.out _).mono ?_; rintro e w' ⟨rfl, rfl⟩))
          refine (WK.out _ T.out).mono ?_
          rintro e w1 ⟨rfl, hb1⟩
          go_wp2_with fail
          go_ret
          exact ⟨rfl, hb1⟩
      · clear hmk hT hd hl h2 h3 h4 hll hne
        go_enter Tryz.func9, Tryz.ntmps9
        go_wp2_with (first | (go_at_call 19; refine (N.out _).mono ?_; rintro e w' ⟨rfl, rfl⟩) | (go_at_call 16; refine (M.out _).mono ?_; rintro e w' ⟨rfl, rfl⟩))
        refine (WK.out _ T.out).mono ?_
        rintro e w1 ⟨rfl, hb1⟩
        go_wp2_with fail
        go_ret
        exact ⟨rfl, hb1⟩
  · clear hT
    go_enter Tryz.func9, Tryz.ntmps9
    go_wp2
    go_ret
    exact ⟨rfl, Below.refl _ _⟩
end Go.Proofs.YtmgkccnfhkcncaaGreatDoor.fnFunctionIsRead
