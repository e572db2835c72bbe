/-
  Is a name url; is a text trimmed; does it begin with a byte order mark.
-/
import Derived.Test.YtmgkccnfhkcncaaGreatDoorUrlB
import Derived.Test.YtmgkccnfhkcncaaGreatDoorUnit
import Derived.Test.YtmgkccnfhkcncaaGreatDoorChars
namespace Go.Proofs.YtmgkccnfhkcncaaGreatDoor
open Go.RowKit

set_option maxHeartbeats 2000000 in
set_option maxRecDepth 100000 in
theorem isUrlL (s : ByteArray) (w : World) (hs : s.size ≤ 9223372036854775807) : Calls Tryz.prog 46 #[.string s] w fun e w' => e = .returned (.bool (isUrlB s.data.toList)) ∧ w = w' := by
  by_cases h : s.size = 3
  · have h0 : 0 < s.size := by omega
    have h1 : 1 < s.size := by omega
    have h2 : 2 < s.size := by omega
    have HF := Lib.hid (show isUrlB s.data.toList = ((((s[0].toNat : Int) == 117) || ((s[0].toNat : Int) == 85)) && (((s[1].toNat : Int) == 114) || ((s[1].toNat : Int) == 82)) && (((s[2].toNat : Int) == 108) || ((s[2].toNat : Int) == 76))) by
      obtain ⟨d⟩ := s
      obtain ⟨l⟩ := d
      obtain ⟨a, b, c, hl⟩ := three (l := l) h
      subst hl
      rfl)
    have t3 : ((s.size : Int) == 3) = true := beq_iff_eq.2 (by omega)
    clear h
    go_enter Tryz.func46, Tryz.ntmps46
    go_wp2_with fail
    all_goals
      go_ret
      exact ⟨ret_bool (by rw [HF.out]; simp [*]), rfl⟩
  · have hx : isUrlB s.data.toList = false := by
      unfold isUrlB
      split
      · rename_i a b c heq
        exact absurd (show s.size = 3 from (congrArg List.length heq)) h
      · rfl
    have t3 : ((s.size : Int) == 3) = false := beq_eq_false_iff_ne.2 (by omega)
    rw [hx]
    clear hx h
    go_enter Tryz.func46, Tryz.ntmps46
    go_wp2_with fail
    go_ret
    exact ⟨rfl, rfl⟩

/-- Neither begins nor ends with whitespace, by bytes. -/
def trimB (l : List UInt8) : Bool := match l with
  | [] => true
  | b :: t => !spB (b.toNat : Int) && !spB (((b :: t).getLast (by simp)).toNat : Int)
theorem sp_byte {c : Nat} {b : UInt8} (hb : b ∈ enc c) : spB (b.toNat : Int) = isWs c := by
  by_cases h1 : c < 128
  · rw [enc_ascii c h1] at hb
    obtain rfl := List.mem_singleton.1 hb
    rw [toUInt8_toNat (by omega), sp_nat]
  · have h2 := enc_high c (by omega) b hb
    have e1 : isWs c = false := by
      cases hw : isWs c with
      | false => rfl
      | true => have := isWs_ascii hw; omega
    rw [e1]
    unfold spB
    exact decide_eq_false (by omega)
theorem trim_encs (l : List Nat) : trimB (encs l) = trimC l := by
  cases l with
  | nil => rfl
  | cons c t =>
    cases he : encs (c :: t) with
    | nil => exact absurd he (encs_cons_ne c t)
    | cons b u =>
      have hb : b ∈ enc c := by
        rw [encs_cons] at he
        cases hc : enc c with
        | nil => exact absurd hc (enc_ne c)
        | cons x y => rw [hc] at he; simp at he; rw [he.1]; simp
      have hl : (b :: u).getLast (by simp) ∈ enc ((c :: t).getLast (by simp)) := by
        have e1 : c :: t = (c :: t).dropLast ++ [(c :: t).getLast (by simp)] := (List.dropLast_concat_getLast (by simp)).symm
        have e2 : b :: u = encs ((c :: t).dropLast) ++ enc ((c :: t).getLast (by simp)) := by
          rw [← he]; conv => lhs; rw [e1]
          rw [encs_append, encs_one]
        have e3 : (b :: u).getLast? = some ((b :: u).getLast (by simp)) := List.getLast?_eq_some_getLast (by simp)
        have e3 : (encs ((c :: t).dropLast) ++ enc ((c :: t).getLast (by simp))).getLast? = some ((b :: u).getLast (by simp)) := by rw [← e2]; exact e3
        rw [List.getLast?_append] at e3
        cases hx : (enc ((c :: t).getLast (by simp))).getLast? with
        | none => rw [List.getLast?_eq_none_iff] at hx; exact absurd hx (enc_ne _)
        | some y =>
          rw [hx] at e3
          have e4 : y = (b :: u).getLast (by simp) := by simpa using e3
          rw [← e4]
          exact List.mem_of_getLast? hx
      show (!spB (b.toNat : Int) && !spB (((b :: u).getLast (by simp)).toNat : Int)) = (!isWs c && !isWs ((c :: t).getLast (by simp)))
      rw [sp_byte hb, sp_byte hl]

theorem toList_nil (s : ByteArray) : s.toList = [] ↔ s.size = 0 := by
  rw [Lib.toList_data]
  exact (List.length_eq_zero_iff (l := s.data.toList)).symm
set_option maxHeartbeats 2000000 in
set_option maxRecDepth 100000 in
theorem trimL (s : ByteArray) (w : World) (hs : s.size ≤ 9223372036854775807) : Calls Tryz.prog 26 #[.string s] w fun e w' => e = .returned (.bool (trimB s.data.toList)) ∧ w = w' := by
  by_cases h : s.size = 0
  · obtain rfl : s = ⟨#[]⟩ := by
      obtain ⟨d⟩ := s
      obtain ⟨l⟩ := d
      have hl : l = [] := List.eq_nil_of_length_eq_zero h
      rw [hl]
    go_enter Tryz.func26, Tryz.ntmps26
    go_wp2_with fail
    go_ret
    exact ⟨rfl, rfl⟩
  · have h0 : 0 < s.size := by omega
    have h1 : s.size - 1 < s.size := by omega
    have C0 := Lib.hid (fun w => specSpace ((s[0].toNat : Nat) : Int) w)
    have C1 := Lib.hid (fun w => specSpace ((s[s.size - 1].toNat : Nat) : Int) w)
    have HF := Lib.hid (show trimB s.data.toList = (!spB ((s[0].toNat : Nat) : Int) && !spB ((s[s.size - 1].toNat : Nat) : Int)) by
      obtain ⟨d⟩ := s
      obtain ⟨l⟩ := d
      cases l with
      | nil => exact absurd rfl h
      | cons b t =>
        show (!spB (b.toNat : Int) && !spB (((b :: t).getLast (by simp)).toNat : Int)) = _
        rw [List.getLast_eq_getElem]
        rfl)
    obtain ⟨x, hx⟩ : ∃ x, spB ((s[0].toNat : Nat) : Int) = x := ⟨_, rfl⟩
    obtain ⟨y, hy⟩ : ∃ x, spB ((s[s.size - 1].toNat : Nat) : Int) = x := ⟨_, rfl⟩
    rw [hx] at C0 HF
    rw [hy] at C1 HF
    have b0 := UInt8.toNat_lt s[0]
    have b1 := UInt8.toNat_lt s[s.size - 1]
    have hne : s.toList.isEmpty = false := by
      cases hh : s.toList.isEmpty with
      | false => rfl
      | true =>
        rw [List.isEmpty_iff] at hh
        exact absurd ((toList_nil s).1 hh) h
    have hne2 : ¬ s.toList = [] := fun hh => h ((toList_nil s).1 hh)
    clear hx hy h
    cases x with
    | true =>
      go_enter Tryz.func26, Tryz.ntmps26
      go_wp2_with fail
      refine (C0.out _).mono ?_
      rintro e w' ⟨rfl, hww⟩
      first | (obtain rfl : _ = w' := hww) | (obtain rfl : _ = w' := hww.symm)
      go_wp2_with fail
      go_ret
      exact ⟨ret_bool (by rw [HF.out]; rfl), rfl⟩
    | false =>
      go_enter Tryz.func26, Tryz.ntmps26
      go_wp2_with fail
      refine (C0.out _).mono ?_
      rintro e w' ⟨rfl, hww⟩
      first | (obtain rfl : _ = w' := hww) | (obtain rfl : _ = w' := hww.symm)
      go_wp2_with fail
      refine (C1.out _).mono ?_
      rintro e w' ⟨rfl, hww⟩
      first | (obtain rfl : _ = w' := hww) | (obtain rfl : _ = w' := hww.symm)
      go_wp2_with fail
      go_ret
      exact ⟨ret_bool (by rw [HF.out]; rfl), rfl⟩
end Go.Proofs.YtmgkccnfhkcncaaGreatDoor
