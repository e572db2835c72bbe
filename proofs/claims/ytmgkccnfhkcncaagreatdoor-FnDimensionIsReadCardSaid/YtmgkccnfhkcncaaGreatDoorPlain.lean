/-
  laws.few, spec.IsPlain, spec.IsName, laws.named: what they compute; the world is as it was.
-/
import Derived.Test.YtmgkccnfhkcncaaGreatDoorRuneAt
namespace Go.Proofs.YtmgkccnfhkcncaaGreatDoor
open Go.RowKit

theorem lfew (s : ByteArray) (w : World) : Calls Tryz.prog 24 #[.string s] w fun e w' => e = .returned (.bool (decide (s.size ≤ 32768))) ∧ w = w' := by
  go_enter Tryz.func24, Tryz.ntmps24
  go_wp2
  go_ret
  exact ⟨ret_bool (decide_eq_decide.2 (by omega)), rfl⟩

theorem toList_size (s : ByteArray) : s.data.toList.length = s.size := rfl

theorem plainF_more : ∀ (f g : Nat) (l : List UInt8), l.length ≤ f → l.length ≤ g → plainF f l = plainF g l
  | 0, 0, _, _, _ => rfl
  | 0, g + 1, l, h, _ => by
    have : l = [] := List.eq_nil_of_length_eq_zero (by omega)
    simp [plainF, this]
  | f + 1, 0, l, _, h => by
    have : l = [] := List.eq_nil_of_length_eq_zero (by omega)
    simp [plainF, this]
  | f + 1, g + 1, l, hf, hg => by
    unfold plainF
    by_cases h : l = []
    · rw [if_pos h, if_pos h]
    · rw [if_neg h, if_neg h]
      by_cases hb : (runeZ l).1 = -2 ∨ (runeZ l).1 = 0
      · rw [if_pos hb, if_pos hb]
      · rw [if_neg hb, if_neg hb]
        have := runeZ_width l h
        exact plainF_more f g _ (by rw [List.length_drop]; omega) (by rw [List.length_drop]; omega)
/-- What is left at place k is plain. -/
def plainAt (s : ByteArray) (k : Nat) : Bool := plainF (s.data.toList.drop k).length (s.data.toList.drop k)
theorem plainAt_end (s : ByteArray) (k : Nat) (h : s.size ≤ k) : plainAt s k = true := by
  have : s.data.toList.drop k = [] := List.drop_eq_nil_of_le h
  unfold plainAt; rw [this]; rfl
theorem plainAt_step (s : ByteArray) (k : Nat) (h : k < s.size) (c : Int) (n : Nat) (hr : runeZ (s.data.toList.drop k) = (c, n)) :
    plainAt s k = if c = -2 ∨ c = 0 then false else plainAt s (k + n) := by
  have hne := drop_ne s k h
  have hw := runeZ_width _ hne
  obtain ⟨m, hm⟩ : ∃ m, (s.data.toList.drop k).length = m + 1 := ⟨(s.data.toList.drop k).length - 1, by have := List.length_pos_iff.2 hne; omega⟩
  unfold plainAt
  rw [hm]
  conv => lhs; unfold plainF
  rw [if_neg hne, hr]
  rw [hr] at hw
  dsimp only at hw ⊢
  by_cases hb : c = -2 ∨ c = 0
  · rw [if_pos hb, if_pos hb]
  · rw [if_neg hb, if_neg hb, List.drop_drop]
    rw [plainF_more m _ _ (by rw [← List.drop_drop, List.length_drop]; omega) (Nat.le_refl _)]
theorem plain_start (s : ByteArray) : plainL s.data.toList = (!(decide ((runeZ s.data.toList).1 = 65279)) && plainAt s 0) := rfl

theorem runeZ_low (l : List UInt8) : -2 ≤ (runeZ l).1 ∧ (runeZ l).1 ≤ 1114111 := by
  unfold runeZ
  by_cases h : l = []
  · rw [if_pos h]; decide
  · rw [if_neg h]
    by_cases h2 : (Lib.decodeL l).1 = 65533 ∧ (Lib.decodeL l).2 = 1
    · rw [if_pos h2]; decide
    · rw [if_neg h2]
      have := Lib.decodeL_rune l
      exact ⟨by dsimp only; omega, by dsimp only; omega⟩

/-- What is known at place k of spec.IsPlain's loop. -/
def PlainRel (s : ByteArray) (k : Nat) : Prop := k = 0 ∨ (0 < k ∧ plainL s.data.toList = plainAt s k)
theorem plain_no {s : ByteArray} {k : Nat} (hR : PlainRel s k) (h : plainAt s k = false) : plainL s.data.toList = false := by
  rcases hR with rfl | ⟨_, hR⟩
  · rw [plain_start, h]; simp
  · rw [hR, h]
theorem plain_yes {s : ByteArray} {k : Nat} (hR : PlainRel s k) (hk : s.size ≤ k) : plainL s.data.toList = true := by
  have h := plainAt_end s k hk
  rcases hR with rfl | ⟨_, hR⟩
  · rw [plain_start, h]
    have : s.data.toList = [] := List.eq_nil_of_length_eq_zero (by rw [toList_size]; omega)
    rw [this]; rfl
  · rw [hR, h]
theorem plain_go {s : ByteArray} {k n : Nat} {c : Int} (hR : PlainRel s k) (hr : runeZ (s.data.toList.drop k) = (c, n)) (hn : 1 ≤ n) (h : plainAt s k = plainAt s (k + n)) (hc : ¬ (k = 0 ∧ c = 65279)) : PlainRel s (k + n) := by
  refine .inr ⟨by omega, ?_⟩
  rcases hR with rfl | ⟨_, hR⟩
  · rw [plain_start, h]
    rw [List.drop_zero] at hr
    rw [hr, decide_eq_false (by simpa using hc)]
    simp
  · rw [hR, h]

set_option maxHeartbeats 1000000 in
set_option maxRecDepth 100000 in
theorem isPlain (s : ByteArray) (w : World) (hz : s.size ≤ 4294967296) :
    Calls Tryz.prog 25 #[.string s] w fun e w' => e = .returned (.bool (plainL s.data.toList)) ∧ w = w' := by
  have R := Lib.hid (fun k w => runeAt_any s k w hz)
  go_enter Tryz.func25, Tryz.ntmps25
  go_wp2
  go_loop [3, 4, 5] (fun at_ c n => ∃ k : Nat, k ≤ s.size ∧ at_ = .int .i64 k ∧ PlainRel s k) (fun at_ _ _ => s.size - (intOf at_).toNat)
  case atStart => exact ⟨0, Nat.zero_le _, rfl, .inl rfl⟩
  case round =>
    obtain ⟨k, hk, rfl, hP⟩ := hrel
    by_cases hlt : k < s.size
    · obtain ⟨c, n, hr⟩ : ∃ c n, runeZ (s.data.toList.drop k) = (c, n) := ⟨_, _, rfl⟩
      have hw := runeZ_width _ (drop_ne s k hlt)
      have hlo := runeZ_low (s.data.toList.drop k)
      have cR := R.out k w
      have hst := plainAt_step s k hlt c n hr
      rw [hr] at hw hlo cR
      rw [List.length_drop, toList_size] at hw
      dsimp only at hw hlo cR
      by_cases hb : c = -2 ∨ c = 0
      · have hfin := Lib.hid (plain_no hP (by rw [hst, if_pos hb]))
        clear hst hr hP
        have C := Lib.hid cR
        clear cR
        rcases hb with rfl | rfl
        all_goals
          go_wp2_with (go_at_call 39; refine (C.out).mono ?_; rintro e w' ⟨rfl, rfl⟩)
          go_ret
          exact ⟨ret_bool hfin.out.symm, rfl⟩
      · rw [if_neg hb] at hst
        have t1 : ((c : Int) == -2) = false := beq_eq_false_iff_ne.2 (by omega)
        have t2 : ((c : Int) == 0) = false := beq_eq_false_iff_ne.2 (by omega)
        by_cases hm : k = 0 ∧ c = 65279
        · obtain ⟨rfl, rfl⟩ := hm
          have hfin := Lib.hid (show plainL s.data.toList = false by rw [plain_start]; rw [List.drop_zero] at hr; rw [hr]; rfl)
          clear hst hr hP t1 t2
          have C := Lib.hid cR
          clear cR
          go_wp2_with (go_at_call 39; refine (C.out).mono ?_; rintro e w' ⟨rfl, rfl⟩)
          go_ret
          exact ⟨ret_bool hfin.out.symm, rfl⟩
        · have hfin := Lib.hid (plain_go hP hr hw.1 hst hm)
          clear hst hr hP
          have C := Lib.hid cR
          clear cR
          by_cases hk0 : k = 0
          · subst hk0
            have t3 : ((c : Int) == 65279) = false := beq_eq_false_iff_ne.2 (by omega)
            go_wp2_with (go_at_call 39; refine (C.out).mono ?_; rintro e w' ⟨rfl, rfl⟩)
            go_round
            case rel => exact ⟨0 + n, by omega, by go_num, hfin.out⟩
            case measure => simp [intOf]; omega
          · have t3 : ((k : Int) == 0) = false := beq_eq_false_iff_ne.2 (by omega)
            go_wp2_with (go_at_call 39; refine (C.out).mono ?_; rintro e w' ⟨rfl, rfl⟩)
            go_round
            case rel => exact ⟨k + n, by omega, by go_num, hfin.out⟩
            case measure => simp [intOf]; omega
    · have hfin := Lib.hid (plain_yes hP (by omega))
      clear hP
      go_wp2
      go_ret
      exact ⟨ret_bool hfin.out.symm, rfl⟩

theorem app_list (a b : ByteArray) : (a ++ b).data.toList = a.data.toList ++ b.data.toList := by simp

theorem isName (s : ByteArray) (w : World) (hz : s.size ≤ 4294967290) :
    Calls Tryz.prog 37 #[.string s] w fun e w' => e = .returned (.bool (decide (s.size ≠ 0) && plainL (120 :: s.data.toList))) ∧ w = w' := by
  have e1 : ∀ t : ByteArray, t.data.toList = 120 :: s.data.toList → Calls Tryz.prog 25 #[.string t] w fun e w' => e = .returned (.bool (plainL (120 :: s.data.toList))) ∧ w = w' := by
    intro t ht
    have h := isPlain t w (by rw [← toList_size, ht, List.length_cons, toList_size]; omega)
    rw [ht] at h
    exact h
  by_cases h0 : s.size = 0
  · have he : s.toList.isEmpty = true := by
      rw [Lib.toList_data, List.eq_nil_of_length_eq_zero h0]; rfl
    rw [decide_eq_false (by omega)]
    have X := Lib.hid h0
    clear h0
    go_enter Tryz.func37, Tryz.ntmps37
    go_wp2
    go_ret
    exact ⟨rfl, rfl⟩
  · have he : s.toList.isEmpty = false := by
      rw [Lib.toList_data]
      cases h : s.data.toList with
      | nil => exact absurd (by rw [← toList_size, h]; rfl) h0
      | cons _ _ => rfl
    rw [decide_eq_true h0]
    have X := Lib.hid h0
    have E := Lib.hid e1
    clear h0 e1
    go_enter Tryz.func37, Tryz.ntmps37
    go_wp2_with fail
    refine (E.out _ ?_).mono ?_
    · exact app_list _ _
    · rintro e w' ⟨rfl, rfl⟩
      go_wp2
      go_ret
      exact ⟨rfl, rfl⟩

set_option maxHeartbeats 400000 in
/-- laws.named. -/
theorem lnamed (s : ByteArray) (w : World) :
    Calls Tryz.prog 19 #[.string s] w fun e w' => e = .returned (.bool (decide (s.size ≤ 32768) && (decide (s.size ≠ 0) && plainL (120 :: s.data.toList)))) ∧ w = w' := by
  have F := Lib.hid (lfew s)
  by_cases h : s.size ≤ 32768
  · have I := Lib.hid (fun w => isName s w (by omega))
    rw [decide_eq_true h] at F ⊢
    generalize (decide (s.size ≠ 0) && plainL (120 :: s.data.toList)) = r at I ⊢
    have X := Lib.hid h
    clear h
    go_enter Tryz.func19, Tryz.ntmps19
    go_wp2_with (first | (go_at_call 24; refine (F.out _).mono ?_; rintro e w' ⟨rfl, rfl⟩) | (go_at_call 37; refine (I.out _).mono ?_; rintro e w' ⟨rfl, rfl⟩))
    go_ret
    exact ⟨rfl, rfl⟩
  · rw [decide_eq_false h] at F ⊢
    have X := Lib.hid h
    clear h
    go_enter Tryz.func19, Tryz.ntmps19
    go_wp2_with (go_at_call 24; refine (F.out _).mono ?_; rintro e w' ⟨rfl, rfl⟩)
    go_ret
    exact ⟨rfl, rfl⟩
end Go.Proofs.YtmgkccnfhkcncaaGreatDoor
