/-
  FnAddressIsRead: every plain text of at most 32768 bytes that neither begins nor ends with whitespace, written as an address without quotes, is read as this address (for all other texts the statement says true). No condition.
-/
import Derived.Test.YtmgkccnfhkcncaaGreatDoorOneX
import Derived.Test.YtmgkccnfhkcncaaGreatDoorAddr
namespace Go.Proofs.YtmgkccnfhkcncaaGreatDoor.fnAddressIsRead
open Go.RowKit
attribute [local go_sem ↓] Go.wp_at_zero Go.wp_at_succ

set_option maxHeartbeats 8000000 in
set_option maxRecDepth 1000000 in
theorem walk (a0 : ByteArray) (w : World) (w0 : a0.size ≤ maxLen) (hT : Lib.Utf8Tabs 0 1 w) :
    Calls Tryz.prog 6 #[.string a0] w fun e w' => e = .returned (.bool true) ∧ Below w.heap.size w w' := by
  unfold maxLen at w0
  by_cases h1 : a0.size ≤ 2147483647
  · have WK := Lib.hid (fun w hT => wakesI w hT)
    have T := Lib.hid hT
    have N := Lib.hid (fun w => lfew a0 w)
    by_cases h2 : a0.size ≤ 32768
    · rw [decide_eq_true h2] at N
      obtain ⟨b, hb⟩ : ∃ b, plainL (120 :: a0.data.toList) = b := ⟨_, rfl⟩
      have I := Lib.hid (fun (t : ByteArray) (w : World) (ht : t.data.toList = 120 :: a0.data.toList) => by
        have h := isPlain t w (by rw [size_of ht, List.length_cons]; have : a0.data.toList.length = a0.size := rfl; omega)
        rw [ht, hb] at h
        exact h)
      cases b
      · clear hb hT
        go_enter Tryz.func6, Tryz.ntmps6
        go_wp2_with (go_at_call 24; refine (N.out _).mono ?_; rintro e w' ⟨rfl, rfl⟩)
        refine (I.out _ _ (app_list _ _)).mono ?_
        rintro e w' ⟨rfl, rfl⟩
        go_wp2_with fail
        refine (WK.out _ T.out).mono ?_
        rintro e w1 ⟨rfl, hb1⟩
        go_wp2_with fail
        go_ret
        exact ⟨rfl, hb1⟩
      · obtain ⟨l, hd, hl⟩ := plainL_x hb
        have hll : l.length ≤ 32768 := by have := encs_len_le l; rw [← size_of hd] at this; omega
        have e0 : a0 = strOf l := eq_strOf hd
        subst e0
        have TR := Lib.hid (fun w => trimL (strOf l) w (by omega))
        obtain ⟨tr, htr⟩ : ∃ x, trimB (strOf l).data.toList = x := ⟨_, rfl⟩
        rw [htr] at TR
        cases tr
        · clear hb hT htr hd hl h2 hll
          go_enter Tryz.func6, Tryz.ntmps6
          go_wp2_with (go_at_call 24; refine (N.out _).mono ?_; rintro e w' ⟨rfl, rfl⟩)
          refine (I.out _ _ (app_list _ _)).mono ?_
          rintro e w' ⟨rfl, rfl⟩
          go_wp2_with (go_at_call 26; refine (TR.out _).mono ?_; rintro e w' ⟨rfl, rfl⟩)
          refine (WK.out _ T.out).mono ?_
          rintro e w1 ⟨rfl, hb1⟩
          go_wp2_with fail
          go_ret
          exact ⟨rfl, hb1⟩
        · have ht : trimC l = true := by rw [← trim_encs l]; exact htr
          have A := Lib.hid (fun w => specAddress (strOf l) w (by omega) l hl rfl)
          have y1 := strOf_size (addrT l)
          have z1 := addrC_len l hl
          have O := Lib.hid (fun w hT => oneX (addrT l) (fun c hc => by
            unfold addrT at hc
            simp only [List.mem_cons, List.mem_append, List.not_mem_nil, or_false] at hc
            rcases hc with rfl | rfl | rfl | rfl | hc | rfl
            · unfold Cp; omega
            · unfold Cp; omega
            · unfold Cp; omega
            · unfold Cp; omega
            · exact addrC_cp l hl c hc
            · unfold Cp; omega) 37 0 0 (strOf l) w hT (by unfold addrT at y1 ⊢; simp only [List.length_append, List.length_cons, List.length_nil] at y1; omega) (by unfold addrT; simp) (by unfold addrT; simp) (nx_address l hl ht) (by decide) (by decide) (by decide) (ok_url l) (.inl rfl) (dec_url l hl ht))
          obtain ⟨s1, hs1⟩ : ∃ x, strOf (addrT l) = x := ⟨_, rfl⟩
          obtain ⟨s0, hs0⟩ : ∃ x, strOf l = x := ⟨_, rfl⟩
          rw [hs1] at A O
          rw [hs0] at A O TR I N w0 h1 ⊢
          clear y1 z1 ht htr hs1 hs0 hT hd hl hb h2 hll
          go_enter Tryz.func6, Tryz.ntmps6
          go_wp2_with (go_at_call 24; refine (N.out _).mono ?_; rintro e w' ⟨rfl, rfl⟩)
          refine (I.out _ _ (app_list _ _)).mono ?_
          rintro e w' ⟨rfl, rfl⟩
          go_wp2_with (first | (go_at_call 26; refine (TR.out _).mono ?_; rintro e w' ⟨rfl, rfl⟩) | (go_at_call 27; refine (A.out _).mono ?_; rintro e w' ⟨rfl, rfl⟩))
          refine (O.out _ T.out).mono ?_
          rintro e w1 ⟨rfl, hb1⟩
          go_wp2_with fail
          refine (WK.out _ (Utf8Tabs_below T.out (hb1.alloc hb1.size _))).mono ?_
          rintro e w2 ⟨rfl, hb2⟩
          go_wp2_with fail
          go_ret
          exact ⟨rfl, (hb1.alloc hb1.size _).trans (hb2.mono (hb1.alloc hb1.size _).size)⟩
    · rw [decide_eq_false h2] at N
      have X := Lib.hid h2
      clear h2 hT
      go_enter Tryz.func6, Tryz.ntmps6
      go_wp2_with (first | (go_at_call 24; refine (N.out _).mono ?_; rintro e w' ⟨rfl, rfl⟩))
      refine (WK.out _ T.out).mono ?_
      rintro e w1 ⟨rfl, hb1⟩
      go_wp2_with fail
      go_ret
      exact ⟨rfl, hb1⟩
  · clear hT
    go_enter Tryz.func6, Tryz.ntmps6
    go_wp2
    go_ret
    exact ⟨rfl, Below.refl _ _⟩
end Go.Proofs.YtmgkccnfhkcncaaGreatDoor.fnAddressIsRead
