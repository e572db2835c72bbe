/-
  FnStringIsRead: every plain text of at most 32768 bytes, in quotes of both kinds, is read as this text (for all other texts the statement says true). No condition.
-/
import Derived.Test.YtmgkccnfhkcncaaGreatDoorOneX
import Derived.Test.YtmgkccnfhkcncaaGreatDoorQuoted
namespace Go.Proofs.YtmgkccnfhkcncaaGreatDoor.fnStringIsRead
open Go.RowKit
attribute [local go_sem ↓] Go.wp_at_zero Go.wp_at_succ

set_option maxHeartbeats 8000000 in
set_option maxRecDepth 1000000 in
theorem walk (a0 : ByteArray) (w : World) (w0 : a0.size ≤ maxLen) (hT : Lib.Utf8Tabs 0 1 w) :
    Calls Tryz.prog 11 #[.string a0] w fun e w' => e = .returned (.bool true) ∧ Below w.heap.size w w' := by
  unfold maxLen at w0
  by_cases h1 : a0.size ≤ 2147483647
  · have WK := Lib.hid (fun w hT => wakesI w hT)
    have T := Lib.hid hT
    have N := Lib.hid (fun w => lfew a0 w)
    by_cases h2 : a0.size ≤ 32768
    · rw [decide_eq_true h2] at N
      obtain ⟨b, hb⟩ : ∃ b, plainL (120 :: a0.data.toList) = b := ⟨_, rfl⟩
      have I := Lib.hid (fun (t : ByteArray) (w : World) (ht : t.data.toList = 120 :: a0.data.toList) => by
        have h := isPlain t w (by rw [size_of ht, List.length_cons]; have : a0.data.toList.length = a0.size := rfl; omega)
        rw [ht, hb] at h
        exact h)
      cases b
      · clear hb hT
        go_enter Tryz.func11, Tryz.ntmps11
        go_wp2_with (go_at_call 24; refine (N.out _).mono ?_; rintro e w' ⟨rfl, rfl⟩)
        refine (I.out _ _ (app_list _ _)).mono ?_
        rintro e w' ⟨rfl, rfl⟩
        go_wp2_with fail
        refine (WK.out _ T.out).mono ?_
        rintro e w1 ⟨rfl, hb1⟩
        go_wp2_with fail
        go_ret
        exact ⟨rfl, hb1⟩
      · obtain ⟨l, hd, hl⟩ := plainL_x hb
        have hll : l.length ≤ 32768 := by have := encs_len_le l; rw [← size_of hd] at this; omega
        have e0 : a0 = strOf l := eq_strOf hd
        subst e0
        have A := Lib.hid (fun w => quoted34 (strOf l) w (by omega) l hl rfl)
        have B := Lib.hid (fun w => quoted39 (strOf l) w (by omega) l hl rfl)
        have O := Lib.hid (fun (q : Nat) (hq : q = 34 ∨ q = 39) w hT => oneX (q :: (quoteC q l ++ [q])) (fun c hc => by
          have hqc : Cp q := by unfold Cp; omega
          simp only [List.mem_cons, List.mem_append, List.not_mem_nil, or_false] at hc
          rcases hc with rfl | hc | rfl
          · exact hqc
          · exact quoteC_cp q l hl c hc
          · exact hqc) 36 0 0 (strOf l) w hT (by
            have y := strOf_size (q :: (quoteC q l ++ [q]))
            have z := quoteC_len q l hl
            simp only [List.length_append, List.length_cons, List.length_nil] at y; omega) (by simp; omega) (by simp) (nx_quoted q hq l hl) (by decide) (by decide) (by decide) ⟨by omega, fun _ => by
              have : (encs (q :: (quoteC q l ++ [q]))).length = 1 + ((encs (quoteC q l)).length + 1) := by rw [encs_cons, encs_append, encs_one, List.length_append, List.length_append, enc_one q (by omega)]
              omega, by omega⟩ (.inl rfl) (dec_quo _ l q (by omega) (quoteC_cp q l hl) (decP_quoteC q hq l hl)))
        have O1 := Lib.hid (fun w hT => O.out 34 (.inl rfl) w hT)
        have O2 := Lib.hid (fun w hT => O.out 39 (.inr rfl) w hT)
        clear O
        obtain ⟨s1, hs1⟩ : ∃ x, strOf (34 :: (quoteC 34 l ++ [34])) = x := ⟨_, rfl⟩
        obtain ⟨s2, hs2⟩ : ∃ x, strOf (39 :: (quoteC 39 l ++ [39])) = x := ⟨_, rfl⟩
        obtain ⟨s0, hs0⟩ : ∃ x, strOf l = x := ⟨_, rfl⟩
        rw [hs1] at A O1
        rw [hs2] at B O2
        rw [hs0] at A B O1 O2 I N w0 h1 ⊢
        clear hs1 hs2 hs0 hT hd hl hb h2 hll
        go_enter Tryz.func11, Tryz.ntmps11
        go_wp2_with (go_at_call 24; refine (N.out _).mono ?_; rintro e w' ⟨rfl, rfl⟩)
        refine (I.out _ _ (app_list _ _)).mono ?_
        rintro e w' ⟨rfl, rfl⟩
        go_wp2_with (go_at_call 30; refine (A.out _).mono ?_; rintro e w' ⟨rfl, rfl⟩)
        refine (O1.out _ T.out).mono ?_
        rintro e w1 ⟨rfl, hb1⟩
        go_wp2_with (go_at_call 30; refine (B.out _).mono ?_; rintro e w' ⟨rfl, rfl⟩)
        refine (O2.out _ (Utf8Tabs_below T.out (hb1.alloc hb1.size _))).mono ?_
        rintro e w2 ⟨rfl, hb2⟩
        have B2 := Lib.hid ((hb1.alloc hb1.size _).trans (hb2.mono (hb1.alloc hb1.size _).size))
        have k1 := (hb2.block w1.heap.size (by simp)).trans (heap_alloc_new w1 _)
        have c0 : w2.cell? ⟨w1.heap.size, 0, none⟩ = some (.int .i64 36) := by rw [Lib.cell_of_heap k1]; rfl
        have c5 : w2.cell? ⟨w1.heap.size, 5, none⟩ = some (.string s0) := by rw [Lib.cell_of_heap k1]; rfl
        have hR : w1.heap.size < w2.heap.size := by have := hb2.size; simp at this; omega
        clear hb2 k1 hb1
        go_wp2_with fail
        refine (WK.out _ (Utf8Tabs_below T.out (B2.out.alloc B2.out.size _))).mono ?_
        rintro e w3 ⟨rfl, hb3⟩
        go_wp2_with fail
        go_ret
        exact ⟨rfl, (B2.out.alloc B2.out.size _).trans (hb3.mono (B2.out.alloc B2.out.size _).size)⟩
    · rw [decide_eq_false h2] at N
      have X := Lib.hid h2
      clear h2 hT
      go_enter Tryz.func11, Tryz.ntmps11
      go_wp2_with (first | (go_at_call 24; refine (N.out _).mono ?_; rintro e w' ⟨rfl, rfl⟩))
      refine (WK.out _ T.out).mono ?_
      rintro e w1 ⟨rfl, hb1⟩
      go_wp2_with fail
      go_ret
      exact ⟨rfl, hb1⟩
  · clear hT
    go_enter Tryz.func11, Tryz.ntmps11
    go_wp2
    go_ret
    exact ⟨rfl, Below.refl _ _⟩
end Go.Proofs.YtmgkccnfhkcncaaGreatDoor.fnStringIsRead
