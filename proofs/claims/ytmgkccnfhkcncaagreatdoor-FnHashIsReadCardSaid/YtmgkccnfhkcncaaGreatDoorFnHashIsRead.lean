/-
  FnHashIsRead: every plain name of at most 32768 bytes, written as an identifier or as a name behind a number sign, is read as a hash of this name; the first is an ID, the second just if it begins as an identifier does (for all other texts the statement says true). No condition.
-/
import Derived.Test.YtmgkccnfhkcncaaGreatDoorOneX
import Derived.Test.YtmgkccnfhkcncaaGreatDoorWould
namespace Go.Proofs.YtmgkccnfhkcncaaGreatDoor.fnHashIsRead
open Go.RowKit
attribute [local go_sem ↓] Go.wp_at_zero Go.wp_at_succ

theorem nameC_ne {l : List Nat} (h : ∀ c ∈ l, Cp c) (hl : l ≠ []) : nameC l ≠ [] := by
  obtain ⟨c, t, h1, _⟩ := name_begins l h hl
  rw [h1]; simp
/-- A written name that begins an identifier. -/
theorem name_would {m : List Nat} (h : ∀ c ∈ m, Cp c) (hm : m ≠ []) (hw : wouldB (encs m) = true) : wsC (m ++ [120]) = true ∨ ∃ c t, m = c :: t ∧ (c = 92 ∨ c = 45) := by
  cases m with
  | nil => exact absurd rfl hm
  | cons c t =>
    rw [wouldB_encs _ h, cpAt_zero_cons] at hw
    unfold identZ at hw
    by_cases h45 : c = 45
    · exact .inr ⟨c, t, rfl, .inr h45⟩
    · rw [if_neg (by omega), ss_nat, Bool.or_eq_true] at hw
      rcases hw with hw | hw
      · left
        cases t with
        | nil =>
          show (if c = 45 then (decide (120 = 45) || starts 120) else starts c) = true
          rw [if_neg h45]; exact hw
        | cons d u =>
          show (if c = 45 then (decide (d = 45) || starts d) else starts c) = true
          rw [if_neg h45]; exact hw
      · right
        refine ⟨c, t, rfl, .inl ?_⟩
        rw [cpAt_succ_cons, escZ_ok] at hw
        exact (of_decide_eq_true hw).1
theorem first_byte {m : List Nat} {c : Nat} {t : List Nat} (hm : m = c :: t) (hc : c < 128) (h0 : 0 < (strOf m).size) : ((strOf m)[0].toNat : Int) = (c : Int) := by
  subst hm
  have h1 : (strOf (c :: t)).data.toList[0]? = some (strOf (c :: t))[0] := List.getElem?_eq_getElem (by exact h0)
  rw [strOf_list, encs_cons, enc_ascii c hc] at h1
  have h2 : c.toUInt8 = (strOf (c :: t))[0] := by simpa using h1
  rw [← h2, toUInt8_toNat (by omega)]

set_option maxHeartbeats 8000000 in
set_option maxRecDepth 1000000 in
theorem walk (a0 : ByteArray) (w : World) (w0 : a0.size ≤ maxLen) (hT : Lib.Utf8Tabs 0 1 w) :
    Calls Tryz.prog 5 #[.string a0] w fun e w' => e = .returned (.bool true) ∧ Below w.heap.size w w' := by
  unfold maxLen at w0
  by_cases h1 : a0.size ≤ 2147483647
  · have WK := Lib.hid (fun w hT => wakesI w hT)
    have T := Lib.hid hT
    have N := Lib.hid (fun w => lnamed a0 w)
    obtain ⟨b, hb⟩ : ∃ b, (decide (a0.size ≤ 32768) && (decide (a0.size ≠ 0) && plainL (120 :: a0.data.toList))) = b := ⟨_, rfl⟩
    rw [hb] at N
    cases b
    · clear hb hT
      go_enter Tryz.func5, Tryz.ntmps5
      go_wp2_with (go_at_call 19; refine (N.out _).mono ?_; rintro e w' ⟨rfl, rfl⟩)
      refine (WK.out _ T.out).mono ?_
      rintro e w1 ⟨rfl, hb1⟩
      go_wp2_with fail
      go_ret
      exact ⟨rfl, hb1⟩
    · simp only [Bool.and_eq_true, decide_eq_true_eq] at hb
      obtain ⟨h2, h3, h4⟩ := hb
      obtain ⟨l, hd, hl⟩ := plainL_x h4
      have hll : l.length ≤ 32768 := by have := encs_len_le l; rw [← size_of hd] at this; omega
      have hne : l ≠ [] := by
        rintro rfl
        exact absurd (size_of hd) (by simpa [encs] using h3)
      have e0 : a0 = strOf l := eq_strOf hd
      subst e0
      have A := Lib.hid (fun w => identX (strOf l) w (by omega) l hl rfl)
      have z1 := identC_len l hl
      have y1 := strOf_size (identC l)
      have icp := identC_cp l hl
      have idp := decP_identC l hl
      have B := Lib.hid (fun w => nameX (strOf l) w (by omega) l hl rfl)
      have z2 := nameC_len l hl
      have y2 := strOf_size (nameC l)
      have ncp := nameC_cp l hl
      have ndp := decP_nameC l hl
      have e1 : (⟨#[35]⟩ : ByteArray) ++ strOf (identC l) = strOf (35 :: identC l) := cons_strOf 35 (by decide) _
      have e2 : (⟨#[35]⟩ : ByteArray) ++ strOf (nameC l) = strOf (35 :: nameC l) := cons_strOf 35 (by decide) _
      have e3 : strOf (nameC l) ++ (⟨#[120]⟩ : ByteArray) = strOf (nameC l ++ [120]) := snoc_strOf (nameC l) 120 (by decide)
      have y3 := strOf_size (35 :: identC l)
      have y4 := strOf_size (35 :: nameC l)
      have hin : nameS (identC l) = (l, [], false) := by
        have := nameS_identC l hl []
        rwa [List.append_nil, nameS_nil, List.append_nil] at this
      have hnn : nameS (nameC l) = (l, [], false) := by
        have := nameS_nameC l hl []
        rwa [List.append_nil, nameS_nil, List.append_nil] at this
      have hbi : Begins false (identC l) := by
        have := begins_identC false l hl hne (fun hh => by cases hh) [] (by decide)
        rwa [List.append_nil] at this
      have hwi : wouldB (encs (identC l)) = true := begins_would icp hbi
      have n1 := nx_hash (identC l) icp l hin (by
        obtain ⟨c, t, h5, h6, _⟩ := hbi
        refine ⟨c, t, h5, ?_⟩
        unfold identZ at h6
        by_cases h45 : c = 45
        · left; subst h45; decide
        · rw [if_neg (by omega), ss_nat, Bool.or_eq_true] at h6
          rcases h6 with h6 | h6
          · left
            have : (97 ≤ c ∧ c ≤ 122) ∨ (65 ≤ c ∧ c ≤ 90) ∨ c = 95 ∨ 128 ≤ c := of_decide_eq_true h6
            exact decide_eq_true (by omega)
          · right
            rw [escZ_ok] at h6
            exact of_decide_eq_true h6)
      rw [if_pos hwi] at n1
      have n2 := nx_hash (nameC l) ncp l hnn (name_begins l hl hne)
      have O1 := Lib.hid (fun w hT => oneX (35 :: identC l) (cps_cons (by unfold Cp; omega) icp) 28 0 1 (strOf l) w hT (by simp only [List.length_cons] at y3; omega) (by simp) (by simp) n1 (by decide) (by decide) (by decide) ⟨fun _ => by rw [encs_cons, enc_ascii 35 (by omega)]; simp, by omega, by omega⟩ (.inr rfl) (dec_at 28 (.inr rfl) 35 (by omega) _ l icp idp))
      have O2 := Lib.hid (fun w hT => oneX (35 :: nameC l) (cps_cons (by unfold Cp; omega) ncp) 28 0 _ (strOf l) w hT (by simp only [List.length_cons] at y4; omega) (by simp) (by simp) n2 (by decide) (by decide) (by decide) ⟨fun _ => by rw [encs_cons, enc_ascii 35 (by omega)]; simp, by omega, by omega⟩ (by split; exact .inr rfl; exact .inl rfl) (dec_at 28 (.inr rfl) 35 (by omega) _ l ncp ndp))
      rw [← e1] at O1
      rw [← e2] at O2
      have hnm := nameC_ne hl hne
      have nz : 0 < (strOf (nameC l)).size := by
        show 0 < (encs (nameC l)).length
        exact List.length_pos_iff.2 fun e => hnm ((encs_eq_nil _).1 e)
      have WS := Lib.hid (fun w hT => implWould (strOf (nameC l) ++ (⟨#[120]⟩ : ByteArray)) w (by simp only [ByteArray.size_append]; show _ + 1 ≤ _; omega) (nameC l ++ [120]) (by
        intro c hc
        rcases List.mem_append.1 hc with hc | hc
        · exact ncp c hc
        · simp at hc; subst hc; unfold Cp; omega) (by rw [e3]; rfl) hT)
      have HW := Lib.hid (fun h => name_would ncp hnm h)
      have FB0 : ∀ s, strOf (nameC l) = s → ∀ c t, nameC l = c :: t → c < 128 → ∀ h0 : 0 < s.size, (s[0].toNat : Int) = (c : Int) := by
        rintro s rfl c t h hc h0
        exact first_byte h hc h0
      obtain ⟨u, hu⟩ : ∃ u, wouldB (encs (nameC l)) = u := ⟨_, rfl⟩
      rw [hu] at O2 HW
      have hz1 : (strOf (identC l)).size ≤ 1048576 := by omega
      have hz2 : (strOf (nameC l)).size ≤ 1048576 := by omega
      obtain ⟨s1, hs1⟩ : ∃ x, strOf (identC l) = x := ⟨_, rfl⟩
      obtain ⟨s2, hs2⟩ : ∃ x, strOf (nameC l) = x := ⟨_, rfl⟩
      obtain ⟨s0, hs0⟩ : ∃ x, strOf l = x := ⟨_, rfl⟩
      rw [hs1] at A O1 hz1
      rw [hs2] at B O2 hz2 WS
      rw [hs2] at nz
      have FB := Lib.hid (FB0 s2 hs2)
      rw [hs0] at A B O1 O2 N w0 h1 ⊢
      clear FB0 z1 y1 z2 y2 y3 y4 e1 e2 e3 icp idp ncp ndp hin hnn hbi hwi n1 n2 hnm hs1 hs2 hs0 hu
      clear hT hd hl h2 h3 h4 hll hne
      go_enter Tryz.func5, Tryz.ntmps5
      go_wp2_with (first | (go_at_call 19; refine (N.out _).mono ?_; rintro e w' ⟨rfl, rfl⟩) | (go_at_call 21; refine (A.out _).mono ?_; rintro e w' ⟨rfl, rfl⟩))
      refine (O1.out _ T.out).mono ?_
      rintro e w1 ⟨rfl, hb1⟩
      go_wp2_with (go_at_call 22; refine (B.out _).mono ?_; rintro e w' ⟨rfl, rfl⟩)
      refine (O2.out _ (Utf8Tabs_below T.out (hb1.alloc hb1.size _))).mono ?_
      rintro e w2 ⟨rfl, hb2⟩
      have B2 := Lib.hid ((hb1.alloc hb1.size _).trans (hb2.mono (hb1.alloc hb1.size _).size))
      have k1 := (hb2.block w1.heap.size (by simp)).trans (heap_alloc_new w1 _)
      have c0 : w2.cell? ⟨w1.heap.size, 0, none⟩ = some (.int .i64 28) := by rw [Lib.cell_of_heap k1]; rfl
      have c4 : w2.cell? ⟨w1.heap.size, 4, none⟩ = some (.bool true) := by rw [Lib.cell_of_heap k1]; rfl
      have c5 : w2.cell? ⟨w1.heap.size, 5, none⟩ = some (.string s0) := by rw [Lib.cell_of_heap k1]; rfl
      have hR : w1.heap.size < w2.heap.size := by have := hb2.size; simp at this; omega
      clear hb2 k1 hb1
      cases u
      · go_wp2_with fail
        refine (WK.out _ (Utf8Tabs_below T.out (B2.out.alloc B2.out.size _))).mono ?_
        rintro e w3 ⟨rfl, hb3⟩
        go_wp2_with fail
        go_ret
        exact ⟨rfl, (B2.out.alloc B2.out.size _).trans (hb3.mono (B2.out.alloc B2.out.size _).size)⟩
      · have nz2 : s2.toList.isEmpty = false := by
          rw [Lib.toList_data]
          cases h : s2.data.toList with
          | nil => exact absurd (show s2.size = 0 by show s2.data.toList.length = 0; rw [h]; rfl) (by omega)
          | cons _ _ => rfl
        obtain ⟨v, hv⟩ : ∃ v, wsC (nameC l ++ [120]) = v := ⟨_, rfl⟩
        rw [hv] at WS
        cases v
        · have hc := (HW.out rfl).resolve_left (by rw [hv]; decide)
          obtain ⟨c, t, hm, hc⟩ := hc
          have fb := FB.out c t hm (by omega) nz
          go_wp2_with (go_at_call 22; refine (B.out _).mono ?_; rintro e w' ⟨rfl, rfl⟩)
          refine (WS.out _ (Utf8Tabs_below T.out (B2.out.alloc B2.out.size _))).mono ?_
          rintro e w3 ⟨rfl, hb3⟩
          have B3 := Lib.hid ((B2.out.alloc B2.out.size _).trans (hb3.mono (B2.out.alloc B2.out.size _).size))
          clear hb3
          rcases hc with rfl | rfl
          · have t1 : ((s2[0].toNat : Int) == 92) = true := beq_iff_eq.2 fb
            go_wp2_with (go_at_call 22; refine (B.out _).mono ?_; rintro e w' ⟨rfl, rfl⟩)
            refine (WK.out _ (Utf8Tabs_below T.out B3.out)).mono ?_
            rintro e w4 ⟨rfl, hb4⟩
            go_wp2_with fail
            go_ret
            exact ⟨rfl, B3.out.trans (hb4.mono B3.out.size)⟩
          · have t1 : ((s2[0].toNat : Int) == 92) = false := beq_eq_false_iff_ne.2 (by omega)
            have t2 : ((s2[0].toNat : Int) == 45) = true := beq_iff_eq.2 fb
            go_wp2_with (go_at_call 22; refine (B.out _).mono ?_; rintro e w' ⟨rfl, rfl⟩)
            refine (WK.out _ (Utf8Tabs_below T.out B3.out)).mono ?_
            rintro e w4 ⟨rfl, hb4⟩
            go_wp2_with fail
            go_ret
            exact ⟨rfl, B3.out.trans (hb4.mono B3.out.size)⟩
        · go_wp2_with (go_at_call 22; refine (B.out _).mono ?_; rintro e w' ⟨rfl, rfl⟩)
          refine (WS.out _ (Utf8Tabs_below T.out (B2.out.alloc B2.out.size _))).mono ?_
          rintro e w3 ⟨rfl, hb3⟩
          have B3 := Lib.hid ((B2.out.alloc B2.out.size _).trans (hb3.mono (B2.out.alloc B2.out.size _).size))
          clear hb3
          go_wp2_with fail
          refine (WK.out _ (Utf8Tabs_below T.out B3.out)).mono ?_
          rintro e w4 ⟨rfl, hb4⟩
          go_wp2_with fail
          go_ret
          exact ⟨rfl, B3.out.trans (hb4.mono B3.out.size)⟩
  · clear hT
    go_enter Tryz.func5, Tryz.ntmps5
    go_wp2
    go_ret
    exact ⟨rfl, Below.refl _ _⟩
end Go.Proofs.YtmgkccnfhkcncaaGreatDoor.fnHashIsRead
