/-
  laws.few, spec.IsPlain, spec.IsName, laws.named: what they compute; the world is as it was. spec.coded: what it writes; the world is as it was. spec.Name, spec.Identifier, spec.Unit: what they write of a plain name; the world is as it was.
-/
import Derived.Test.YtmgkccnfhkcncaaGreatDoorRuneAt
import Derived.WalkSpells
namespace Go.Proofs.YtmgkccnfhkcncaaGreatDoor
open Go.RowKit

theorem lfew (s : ByteArray) (w : World) : Calls Tryz.prog 24 #[.string s] w fun e w' => e = .returned (.bool (decide (s.size ≤ 32768))) ∧ w = w' := by
  go_enter Tryz.func24, Tryz.ntmps24
  go_wp2
  go_ret
  exact ⟨ret_bool (decide_eq_decide.2 (by omega)), rfl⟩

theorem toList_size (s : ByteArray) : s.data.toList.length = s.size := rfl

theorem plainF_more : ∀ (f g : Nat) (l : List UInt8), l.length ≤ f → l.length ≤ g → plainF f l = plainF g l
  | 0, 0, _, _, _ => rfl
  | 0, g + 1, l, h, _ => by
    have : l = [] := List.eq_nil_of_length_eq_zero (by omega)
    simp [plainF, this]
  | f + 1, 0, l, _, h => by
    have : l = [] := List.eq_nil_of_length_eq_zero (by omega)
    simp [plainF, this]
  | f + 1, g + 1, l, hf, hg => by
    unfold plainF
    by_cases h : l = []
    · rw [if_pos h, if_pos h]
    · rw [if_neg h, if_neg h]
      by_cases hb : (runeZ l).1 = -2 ∨ (runeZ l).1 = 0
      · rw [if_pos hb, if_pos hb]
      · rw [if_neg hb, if_neg hb]
        have := runeZ_width l h
        exact plainF_more f g _ (by rw [List.length_drop]; omega) (by rw [List.length_drop]; omega)
/-- What is left at place k is plain. -/
def plainAt (s : ByteArray) (k : Nat) : Bool := plainF (s.data.toList.drop k).length (s.data.toList.drop k)
theorem plainAt_end (s : ByteArray) (k : Nat) (h : s.size ≤ k) : plainAt s k = true := by
  have : s.data.toList.drop k = [] := List.drop_eq_nil_of_le h
  unfold plainAt; rw [this]; rfl
theorem plainAt_step (s : ByteArray) (k : Nat) (h : k < s.size) (c : Int) (n : Nat) (hr : runeZ (s.data.toList.drop k) = (c, n)) :
    plainAt s k = if c = -2 ∨ c = 0 then false else plainAt s (k + n) := by
  have hne := drop_ne s k h
  have hw := runeZ_width _ hne
  obtain ⟨m, hm⟩ : ∃ m, (s.data.toList.drop k).length = m + 1 := ⟨(s.data.toList.drop k).length - 1, by have := List.length_pos_iff.2 hne; omega⟩
  unfold plainAt
  rw [hm]
  conv => lhs; unfold plainF
  rw [if_neg hne, hr]
  rw [hr] at hw
  dsimp only at hw ⊢
  by_cases hb : c = -2 ∨ c = 0
  · rw [if_pos hb, if_pos hb]
  · rw [if_neg hb, if_neg hb, List.drop_drop]
    rw [plainF_more m _ _ (by rw [← List.drop_drop, List.length_drop]; omega) (Nat.le_refl _)]
theorem plain_start (s : ByteArray) : plainL s.data.toList = (!(decide ((runeZ s.data.toList).1 = 65279)) && plainAt s 0) := rfl

theorem runeZ_low (l : List UInt8) : -2 ≤ (runeZ l).1 ∧ (runeZ l).1 ≤ 1114111 := by
  unfold runeZ
  by_cases h : l = []
  · rw [if_pos h]; decide
  · rw [if_neg h]
    by_cases h2 : (Lib.decodeL l).1 = 65533 ∧ (Lib.decodeL l).2 = 1
    · rw [if_pos h2]; decide
    · rw [if_neg h2]
      have := Lib.decodeL_rune l
      exact ⟨by dsimp only; omega, by dsimp only; omega⟩

/-- What is known at place k of spec.IsPlain's loop. -/
def PlainRel (s : ByteArray) (k : Nat) : Prop := k = 0 ∨ (0 < k ∧ plainL s.data.toList = plainAt s k)
theorem plain_no {s : ByteArray} {k : Nat} (hR : PlainRel s k) (h : plainAt s k = false) : plainL s.data.toList = false := by
  rcases hR with rfl | ⟨_, hR⟩
  · rw [plain_start, h]; simp
  · rw [hR, h]
theorem plain_yes {s : ByteArray} {k : Nat} (hR : PlainRel s k) (hk : s.size ≤ k) : plainL s.data.toList = true := by
  have h := plainAt_end s k hk
  rcases hR with rfl | ⟨_, hR⟩
  · rw [plain_start, h]
    have : s.data.toList = [] := List.eq_nil_of_length_eq_zero (by rw [toList_size]; omega)
    rw [this]; rfl
  · rw [hR, h]
theorem plain_go {s : ByteArray} {k n : Nat} {c : Int} (hR : PlainRel s k) (hr : runeZ (s.data.toList.drop k) = (c, n)) (hn : 1 ≤ n) (h : plainAt s k = plainAt s (k + n)) (hc : ¬ (k = 0 ∧ c = 65279)) : PlainRel s (k + n) := by
  refine .inr ⟨by omega, ?_⟩
  rcases hR with rfl | ⟨_, hR⟩
  · rw [plain_start, h]
    rw [List.drop_zero] at hr
    rw [hr, decide_eq_false (by simpa using hc)]
    simp
  · rw [hR, h]

set_option maxHeartbeats 1000000 in
set_option maxRecDepth 100000 in
theorem isPlain (s : ByteArray) (w : World) (hz : s.size ≤ 4294967296) :
    Calls Tryz.prog 25 #[.string s] w fun e w' => e = .returned (.bool (plainL s.data.toList)) ∧ w = w' := by
  have R := Lib.hid (fun k w => runeAt_any s k w hz)
  go_enter Tryz.func25, Tryz.ntmps25
  go_wp2
  go_loop [3, 4, 5] (fun at_ c n => ∃ k : Nat, k ≤ s.size ∧ at_ = .int .i64 k ∧ PlainRel s k) (fun at_ _ _ => s.size - (intOf at_).toNat)
  case atStart => exact ⟨0, Nat.zero_le _, rfl, .inl rfl⟩
  case round =>
    obtain ⟨k, hk, rfl, hP⟩ := hrel
    by_cases hlt : k < s.size
    · obtain ⟨c, n, hr⟩ : ∃ c n, runeZ (s.data.toList.drop k) = (c, n) := ⟨_, _, rfl⟩
      have hw := runeZ_width _ (drop_ne s k hlt)
      have hlo := runeZ_low (s.data.toList.drop k)
      have cR := R.out k w
      have hst := plainAt_step s k hlt c n hr
      rw [hr] at hw hlo cR
      rw [List.length_drop, toList_size] at hw
      dsimp only at hw hlo cR
      by_cases hb : c = -2 ∨ c = 0
      · have hfin := Lib.hid (plain_no hP (by rw [hst, if_pos hb]))
        clear hst hr hP
        have C := Lib.hid cR
        clear cR
        rcases hb with rfl | rfl
        all_goals
          go_wp2_with (go_at_call 39; refine (C.out).mono ?_; rintro e w' ⟨rfl, rfl⟩)
          go_ret
          exact ⟨ret_bool hfin.out.symm, rfl⟩
      · rw [if_neg hb] at hst
        have t1 : ((c : Int) == -2) = false := beq_eq_false_iff_ne.2 (by omega)
        have t2 : ((c : Int) == 0) = false := beq_eq_false_iff_ne.2 (by omega)
        by_cases hm : k = 0 ∧ c = 65279
        · obtain ⟨rfl, rfl⟩ := hm
          have hfin := Lib.hid (show plainL s.data.toList = false by rw [plain_start]; rw [List.drop_zero] at hr; rw [hr]; rfl)
          clear hst hr hP t1 t2
          have C := Lib.hid cR
          clear cR
          go_wp2_with (go_at_call 39; refine (C.out).mono ?_; rintro e w' ⟨rfl, rfl⟩)
          go_ret
          exact ⟨ret_bool hfin.out.symm, rfl⟩
        · have hfin := Lib.hid (plain_go hP hr hw.1 hst hm)
          clear hst hr hP
          have C := Lib.hid cR
          clear cR
          by_cases hk0 : k = 0
          · subst hk0
            have t3 : ((c : Int) == 65279) = false := beq_eq_false_iff_ne.2 (by omega)
            go_wp2_with (go_at_call 39; refine (C.out).mono ?_; rintro e w' ⟨rfl, rfl⟩)
            go_round
            case rel => exact ⟨0 + n, by omega, by go_num, hfin.out⟩
            case measure => simp [intOf]; omega
          · have t3 : ((k : Int) == 0) = false := beq_eq_false_iff_ne.2 (by omega)
            go_wp2_with (go_at_call 39; refine (C.out).mono ?_; rintro e w' ⟨rfl, rfl⟩)
            go_round
            case rel => exact ⟨k + n, by omega, by go_num, hfin.out⟩
            case measure => simp [intOf]; omega
    · have hfin := Lib.hid (plain_yes hP (by omega))
      clear hP
      go_wp2
      go_ret
      exact ⟨ret_bool hfin.out.symm, rfl⟩

theorem app_list (a b : ByteArray) : (a ++ b).data.toList = a.data.toList ++ b.data.toList := by simp

theorem isName (s : ByteArray) (w : World) (hz : s.size ≤ 4294967290) :
    Calls Tryz.prog 37 #[.string s] w fun e w' => e = .returned (.bool (decide (s.size ≠ 0) && plainL (120 :: s.data.toList))) ∧ w = w' := by
  have e1 : ∀ t : ByteArray, t.data.toList = 120 :: s.data.toList → Calls Tryz.prog 25 #[.string t] w fun e w' => e = .returned (.bool (plainL (120 :: s.data.toList))) ∧ w = w' := by
    intro t ht
    have h := isPlain t w (by rw [← toList_size, ht, List.length_cons, toList_size]; omega)
    rw [ht] at h
    exact h
  by_cases h0 : s.size = 0
  · have he : s.toList.isEmpty = true := by
      rw [Lib.toList_data, List.eq_nil_of_length_eq_zero h0]; rfl
    rw [decide_eq_false (by omega)]
    have X := Lib.hid h0
    clear h0
    go_enter Tryz.func37, Tryz.ntmps37
    go_wp2
    go_ret
    exact ⟨rfl, rfl⟩
  · have he : s.toList.isEmpty = false := by
      rw [Lib.toList_data]
      cases h : s.data.toList with
      | nil => exact absurd (by rw [← toList_size, h]; rfl) h0
      | cons _ _ => rfl
    rw [decide_eq_true h0]
    have X := Lib.hid h0
    have E := Lib.hid e1
    clear h0 e1
    go_enter Tryz.func37, Tryz.ntmps37
    go_wp2_with fail
    refine (E.out _ ?_).mono ?_
    · exact app_list _ _
    · rintro e w' ⟨rfl, rfl⟩
      go_wp2
      go_ret
      exact ⟨rfl, rfl⟩

set_option maxHeartbeats 400000 in
/-- laws.named. -/
theorem lnamed (s : ByteArray) (w : World) :
    Calls Tryz.prog 19 #[.string s] w fun e w' => e = .returned (.bool (decide (s.size ≤ 32768) && (decide (s.size ≠ 0) && plainL (120 :: s.data.toList)))) ∧ w = w' := by
  have F := Lib.hid (lfew s)
  by_cases h : s.size ≤ 32768
  · have I := Lib.hid (fun w => isName s w (by omega))
    rw [decide_eq_true h] at F ⊢
    generalize (decide (s.size ≠ 0) && plainL (120 :: s.data.toList)) = r at I ⊢
    have X := Lib.hid h
    clear h
    go_enter Tryz.func19, Tryz.ntmps19
    go_wp2_with (first | (go_at_call 24; refine (F.out _).mono ?_; rintro e w' ⟨rfl, rfl⟩) | (go_at_call 37; refine (I.out _).mono ?_; rintro e w' ⟨rfl, rfl⟩))
    go_ret
    exact ⟨rfl, rfl⟩
  · rw [decide_eq_false h] at F ⊢
    have X := Lib.hid h
    clear h
    go_enter Tryz.func19, Tryz.ntmps19
    go_wp2_with (go_at_call 24; refine (F.out _).mono ?_; rintro e w' ⟨rfl, rfl⟩)
    go_ret
    exact ⟨rfl, rfl⟩
end Go.Proofs.YtmgkccnfhkcncaaGreatDoor

namespace Go.Proofs.YtmgkccnfhkcncaaGreatDoor
open Go.RowKit

theorem hexTab_size : ({ data := #[48, 49, 50, 51, 52, 53, 54, 55, 56, 57, 97, 98, 99, 100, 101, 102] } : ByteArray).size = 16 := rfl
theorem hexTab_enc : ∀ j : Fin 16, (Utf8.encode ((({ data := #[48, 49, 50, 51, 52, 53, 54, 55, 56, 57, 97, 98, 99, 100, 101, 102] } : ByteArray)[j.val]'(by have := j.isLt; exact this)).toNat : Int)).data.toList = enc (hexDig j.val) := by decide +kernel

theorem digF_go {k : Nat} {ds : List Nat} (hk : 0 < k) : digF (k + 1) 1 k ds = digF (k / 16 + 1) 1 (k / 16) (hexDig (k % 16) :: ds) := by
  conv => lhs; unfold digF
  rw [if_pos (.inl hk)]
  exact digF_more _ _ _ _ _ (by simp only [List.length_cons]; omega) (by simp only [List.length_cons]; omega)
theorem digF_stop {ds : List Nat} (h : ds ≠ []) : digF (0 + 1) 1 0 ds = ds := by
  unfold digF
  rw [if_neg]
  have := List.length_pos_iff.2 h
  omega
theorem digs_start (c : Nat) : digF (c + 1) 1 c [] = digs 1 c := rfl
theorem start_len (c : Nat) : ([] : List Nat).length + c ≤ c := by simp
theorem utf8_small (r : Int) : (Utf8.encode r).size ≤ 4 := by
  unfold Utf8.encode
  dsimp only
  generalize (if Utf8.valid r then r.toNat else Utf8.runeError) = c
  by_cases h1 : c < 0x80
  · rw [if_pos h1]; exact (by decide : 1 ≤ 4)
  · rw [if_neg h1]
    by_cases h2 : c < 0x800
    · rw [if_pos h2]; exact (by decide : 2 ≤ 4)
    · rw [if_neg h2]
      by_cases h3 : c < 0x10000
      · rw [if_pos h3]; exact (by decide : 3 ≤ 4)
      · rw [if_neg h3]; exact (by decide : 4 ≤ 4)
theorem no_over {a b : Nat} (ha : a ≤ 4) (hb : b ≤ 17179869184) (h : 9223372036854775807 < a + b) : False := by omega
theorem size_of {s : ByteArray} {l : List UInt8} (h : s.data.toList = l) : s.size = l.length := by rw [← h]; rfl
theorem not_empty {s : ByteArray} {l : List Nat} (h : s.data.toList = encs l) (hl : l ≠ []) : s.toList.isEmpty = false := by
  rw [Lib.toList_data, h]
  cases l with
  | nil => exact absurd rfl hl
  | cons c t =>
    cases he : encs (c :: t) with
    | nil => exact absurd he (encs_cons_ne c t)
    | cons _ _ => rfl

set_option maxHeartbeats 1000000 in
set_option maxRecDepth 100000 in
theorem coded (c : Nat) (w : World) (hc1 : 1 ≤ c) (hc : c ≤ 2147483647) :
    Calls Tryz.prog 42 #[.int .i64 c] w fun e w' => (∃ s : ByteArray, e = .returned (.string s) ∧ s.data.toList = encs (codedC 1 c)) ∧ w = w' := by
  go_enter Tryz.func42, Tryz.ntmps42
  go_wp2
  go_loop [3, 4] (fun d n => ∃ (D : ByteArray) (ds : List Nat) (k : Nat), d = .string D ∧ n = .int .i64 k ∧ D.data.toList = encs ds ∧ k ≤ c ∧ digF (k + 1) 1 k ds = digs 1 c ∧ (ds = [] → k = c) ∧ ds.length + k ≤ c) (fun _ n => (intOf n).toNat)
  case atStart => exact ⟨_, [], c, rfl, rfl, rfl, Nat.le_refl _, digs_start c, fun _ => rfl, start_len c⟩
  case round =>
    obtain ⟨D, ds, k, rfl, rfl, hD, hk, hdig, hne, hlen⟩ := hrel
    have hsz : D.size ≤ 4 * ds.length := by rw [size_of hD]; exact encs_len_ge ds
    by_cases h0 : 0 < k
    · have HD := Lib.hid hD
      have HG := Lib.hid (hdig.symm.trans (digF_go h0))
      have HS := Lib.hid hsz
      clear hD hdig hne hsz
      go_wp2
      case isTrue => exact (no_over (utf8_small _) (Nat.le_trans HS.out (by omega)) ‹_›).elim
      go_round
      case rel =>
        exact ⟨_, hexDig (k % 16) :: ds, k / 16, rfl, by go_num, by rw [app_list, encs_cons, HD.out]; exact congrArg (· ++ encs ds) (hexTab_enc ⟨k % 16, Nat.mod_lt k (by omega)⟩), by omega, HG.out.symm, fun h => absurd h (by simp), by simp only [List.length_cons]; omega⟩
      case measure => simp [intOf]; omega
    · obtain rfl : k = 0 := by omega
      have hds : ds ≠ [] := fun h => by have := hne h; omega
      have hem := not_empty hD hds
      have hfin : ∀ a b : ByteArray, a.data.toList = [92] → b.data.toList = [32] → (a ++ D ++ b).data.toList = encs (codedC 1 c) := by
        intro a b ha hb
        rw [app_list, app_list, ha, hb, hD]
        unfold codedC
        rw [← hdig, digF_stop hds, encs_cons, encs_append, encs_one, enc_ascii 92 (by omega), enc_ascii 32 (by omega)]
        simp
      have HF := Lib.hid hfin
      clear hD hdig hne hds hfin
      go_wp2
      go_ret
      exact ⟨⟨_, rfl, HF.out _ _ rfl rfl⟩, rfl⟩
end Go.Proofs.YtmgkccnfhkcncaaGreatDoor

namespace Go.Proofs.YtmgkccnfhkcncaaGreatDoor
open Go.RowKit

theorem coded_size (c : Nat) (h : Cp c) : (encs (codedC 1 c)).length ≤ 32 := by
  have h1 := encs_len_ge (codedC 1 c)
  have h2 := digs_len 1 c (by unfold Cp at h; omega) (by omega)
  have : (codedC 1 c).length = (digs 1 c).length + 2 := by unfold codedC; simp
  omega
theorem piece_list (s : ByteArray) (k : Nat) (c : Nat) (t : List Nat) (hd : s.data.toList.drop k = encs (c :: t)) : (s.extract k (k + (enc c).length)).data.toList = enc c := by
  rw [Lib.extract_data, hd, encs_cons, Nat.add_sub_cancel_left, List.take_left]
theorem next_drop (s : ByteArray) (k : Nat) (c : Nat) (t : List Nat) (hd : s.data.toList.drop k = encs (c :: t)) : s.data.toList.drop (k + (enc c).length) = encs t := by
  rw [← List.drop_drop, hd, drop_encs]
theorem next_le (s : ByteArray) (k : Nat) (c : Nat) (t : List Nat) (hk : k ≤ s.size) (hd : s.data.toList.drop k = encs (c :: t)) : k + (enc c).length ≤ s.size := by
  have := congrArg List.length hd
  rw [List.length_drop, encs_cons, List.length_append] at this
  have h2 : s.data.toList.length = s.size := rfl
  have := enc_len c
  omega
theorem rest_nil (s : ByteArray) (k : Nat) (hd : s.data.toList.drop k = encs []) : s.size ≤ k := by
  have := congrArg List.length hd
  rw [List.length_drop] at this
  have h2 : s.data.toList.length = s.size := rfl
  simp [encs] at this
  omega

/-- What a writer's loop carries: F writes what is left. -/
def WRel (s : ByteArray) (F : List Nat → List Nat) (total : List UInt8) (O : ByteArray) (k : Nat) (rest : List Nat) : Prop :=
  s.data.toList.drop k = encs rest ∧ (∀ c ∈ rest, Cp c) ∧ O.data.toList ++ encs (F rest) = total ∧ O.size ≤ 40 * k + 40

theorem wrel_step {s : ByteArray} {F F' : List Nat → List Nat} {total : List UInt8} {O : ByteArray} {k c : Nat} {t : List Nat} (h : WRel s F total O k (c :: t)) {x : List Nat} (hx : F (c :: t) = x ++ F' t) (hl : (encs x).length ≤ 40) {p : ByteArray} (hp : p.data.toList = encs x) :
    WRel s F' total (O ++ p) (k + (enc c).length) t := by
  obtain ⟨h1, h2, h3, h4⟩ := h
  have hn := (enc_len c).1
  refine ⟨next_drop s k c t h1, fun d hd => h2 d (by simp [hd]), ?_, ?_⟩
  · rw [app_list, hp, ← h3, hx, encs_append, List.append_assoc]
  · have : (O ++ p).size = O.size + p.size := by
      show (O ++ p).data.toList.length = _
      rw [app_list, List.length_append]; rfl
    have : p.size = (encs x).length := size_of hp
    omega

theorem nameC_cons (c : Nat) (t : List Nat) : nameC (c :: t) = idChar false false c ++ nameC t := by simp [nameC, idRest]
theorem idChar_ctl {c : Nat} {dig lone : Bool} (h : isCtl c = true ∨ (isDg c = true ∧ dig = true)) : idChar dig lone c = codedC 1 c := by unfold idChar; rw [if_pos h]
theorem idChar_raw {c : Nat} {dig lone : Bool} (h : ¬ (isCtl c = true ∨ (isDg c = true ∧ dig = true))) (h2 : conts c = true ∧ lone = false) : idChar dig lone c = [c] := by unfold idChar; rw [if_neg h, if_pos h2]
theorem idChar_back {c : Nat} {dig lone : Bool} (h : ¬ (isCtl c = true ∨ (isDg c = true ∧ dig = true))) (h2 : ¬ (conts c = true ∧ lone = false)) : idChar dig lone c = [92, c] := by unfold idChar; rw [if_neg h, if_neg h2]
theorem enc92 : enc 92 = [92] := by rw [enc_ascii 92 (by omega)]; rfl
theorem back_list (p : ByteArray) (c : Nat) (hp : p.data.toList = enc c) (b : ByteArray) (hb : b.data.toList = [92]) : (b ++ p).data.toList = encs [92, c] := by
  rw [app_list, hp, hb, encs_cons, encs_one, enc92]
theorem back_size (c : Nat) : (encs [92, c]).length ≤ 40 := by
  rw [encs_cons, encs_one, List.length_append, enc92]
  have := (enc_len c).2
  simp; omega
theorem raw_size (c : Nat) : (encs [c]).length ≤ 40 := by rw [encs_one]; have := (enc_len c).2; omega

set_option maxHeartbeats 2000000 in
set_option maxRecDepth 100000 in
theorem specName (s : ByteArray) (w : World) (hz : s.size ≤ 4294967296) (l : List Nat) (hl : ∀ c ∈ l, Cp c) (hd : s.data.toList = encs l) :
    Calls Tryz.prog 22 #[.string s] w fun e w' => (∃ o : ByteArray, e = .returned (.string o) ∧ o.data.toList = encs (nameC l)) ∧ w = w' := by
  have R := Lib.hid (fun k w c t hc hd => runeAt_cp s k w hz c t hc hd)
  have START := Lib.hid (show WRel s nameC (encs (nameC l)) ⟨#[]⟩ 0 l from ⟨hd, hl, rfl, Nat.zero_le _⟩)
  clear hd hl
  go_enter Tryz.func22, Tryz.ntmps22
  go_wp2
  go_loop [3, 4] (fun o at_ => ∃ (O : ByteArray) (k : Nat) (rest : List Nat), o = .string O ∧ at_ = .int .i64 k ∧ k ≤ s.size ∧ WRel s nameC (encs (nameC l)) O k rest) (fun _ at_ => s.size - (intOf at_).toNat)
  case atStart => exact ⟨_, 0, l, rfl, rfl, Nat.zero_le _, START.out⟩
  case round =>
    obtain ⟨O, k, rest, rfl, rfl, hk, hW⟩ := hrel
    have hO : O.size ≤ 40 * k + 40 := hW.2.2.2
    cases rest with
    | nil =>
      have hks := rest_nil s k hW.1
      have hfin := hW.2.2.1
      rw [show nameC [] = [] from rfl, encs_nil, List.append_nil] at hfin
      have F := Lib.hid hfin
      clear hfin hW
      go_wp2
      go_ret
      exact ⟨⟨_, rfl, F.out⟩, rfl⟩
    | cons c t =>
      have hc := hW.2.1 c (by simp)
      have hcl : 1 ≤ c := hc.1
      have hcu : c ≤ 1114111 := by unfold Cp at hc; omega
      have hkn := next_le s k c t hk hW.1
      have hpl := piece_list s k c t hW.1
      have hn := enc_len c
      have hcs := coded_size c hc
      have cR := R.out k w c t hc hW.1
      have cC := specControl (c : Int) w
      have cS := specContinues (c : Int) w
      have cD := coded c w hcl (by omega)
      rw [ctl_nat] at cC
      rw [sc_nat] at cS
      have hnd := nameC_cons c t
      have hps : (s.extract k (k + (enc c).length)).size ≤ 4 := by rw [size_of hpl]; exact hn.2
      obtain ⟨n, hne⟩ : ∃ n, (enc c).length = n := ⟨_, rfl⟩
      have STEP := Lib.hid (fun x hx hl p hp => wrel_step (F' := nameC) hW (x := x) hx hl (p := p) hp)
      have PL := Lib.hid hpl
      have CS := Lib.hid hcs
      rw [hne] at cR hkn hn STEP PL
      have hkz : (k : Int) + (n : Int) ≤ (s.size : Int) := by omega
      have hkz0 : (k : Int) ≤ (k : Int) + (n : Int) := by omega
      have CR := Lib.hid cR
      have CC := Lib.hid cC
      have CO := Lib.hid cS
      have CD := Lib.hid cD
      clear hcs hpl hW hne cR cC cS cD hps hc
      by_cases h1 : isCtl c = true
      · rw [h1] at CC
        rw [idChar_ctl (.inl h1)] at hnd
        have ND := Lib.hid hnd
        clear h1 hnd
        go_wp2_with (first | (go_at_call 39; refine (CR.out).mono ?_; rintro e w' ⟨rfl, rfl⟩) | (go_at_call 40; refine (CC.out).mono ?_; rintro e w' ⟨rfl, rfl⟩))
        refine (CD.out).mono ?_
        rintro e w' ⟨⟨q, rfl, hq⟩, rfl⟩
        have hqs : q.size ≤ 32 := by rw [size_of hq]; exact CS.out
        have Q := Lib.hid hq
        clear hq
        go_wp2_with fail
        go_round
        case rel => exact ⟨O ++ q, k + n, t, rfl, by go_num, hkn, STEP.out _ ND.out (by have := CS.out; omega) _ Q.out⟩
        case measure => simp [intOf]; omega
      · have h1' : isCtl c = false := by simpa using h1
        rw [h1'] at CC
        have hnc : ¬ (isCtl c = true ∨ (isDg c = true ∧ false = true)) := by rintro (h | ⟨_, h⟩); exact h1 h; exact absurd h (by simp)
        by_cases h2 : conts c = true
        · rw [h2] at CO
          rw [idChar_raw hnc ⟨h2, rfl⟩] at hnd
          have ND := Lib.hid hnd
          clear h1 h1' h2 hnc hnd
          go_wp2_with (first | (go_at_call 39; refine (CR.out).mono ?_; rintro e w' ⟨rfl, rfl⟩) | (go_at_call 40; refine (CC.out).mono ?_; rintro e w' ⟨rfl, rfl⟩) | (go_at_call 43; refine (CO.out).mono ?_; rintro e w' ⟨rfl, rfl⟩))
          go_round
          case rel => exact ⟨_, k + n, t, rfl, by go_num, hkn, STEP.out _ ND.out (raw_size c) _ (by rw [encs_one]; exact PL.out)⟩
          case measure => simp [intOf]; omega
        · have h2' : conts c = false := by simpa using h2
          rw [h2'] at CO
          rw [idChar_back hnc (fun h => h2 h.1)] at hnd
          have ND := Lib.hid hnd
          clear h1 h1' h2 h2' hnc hnd
          go_wp2_with (first | (go_at_call 39; refine (CR.out).mono ?_; rintro e w' ⟨rfl, rfl⟩) | (go_at_call 40; refine (CC.out).mono ?_; rintro e w' ⟨rfl, rfl⟩) | (go_at_call 43; refine (CO.out).mono ?_; rintro e w' ⟨rfl, rfl⟩))
          go_round
          case rel => exact ⟨_, k + n, t, rfl, by go_num, hkn, STEP.out _ ND.out (back_size c) _ (back_list _ c PL.out _ rfl)⟩
          case measure => simp [intOf]; omega
end Go.Proofs.YtmgkccnfhkcncaaGreatDoor
