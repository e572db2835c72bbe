/-
  spec.Address: what it writes of a plain text; the world is as it was. spec.HasMark. spec.IsURL.
-/
import Derived.Test.YtmgkccnfhkcncaaGreatDoorMathQ
namespace Go.Proofs.YtmgkccnfhkcncaaGreatDoor
open Go.RowKit

theorem addrChar_ctl {c : Nat} (h : isCtl c = true) : addrChar c = codedC 1 c := by unfold addrChar; rw [if_pos h]
theorem addrChar_back {c : Nat} (h : ¬ isCtl c = true) (h2 : isWs c = true ∨ c = 34 ∨ c = 39 ∨ c = 40 ∨ c = 41 ∨ c = 92) : addrChar c = [92, c] := by unfold addrChar; rw [if_neg h, if_pos h2]
theorem addrChar_raw {c : Nat} (h : ¬ isCtl c = true) (h2 : ¬ (isWs c = true ∨ c = 34 ∨ c = 39 ∨ c = 40 ∨ c = 41 ∨ c = 92)) : addrChar c = [c] := by unfold addrChar; rw [if_neg h, if_neg h2]
def urlHead : ByteArray := ⟨#[117, 114, 108, 40]⟩
theorem urlHead_list : urlHead.data.toList = [117, 114, 108, 40] := rfl

set_option maxHeartbeats 4000000 in
set_option maxRecDepth 100000 in
theorem specAddress (s : ByteArray) (w : World) (hz : s.size ≤ 4294967296) (l : List Nat) (hl : ∀ c ∈ l, Cp c) (hd : s.data.toList = encs l) :
    Calls Tryz.prog 27 #[.string s] w fun e w' => e = .returned (.string (strOf (addrT l))) ∧ w' = w := by
  have R := Lib.hid (fun k w c t hc hd => runeAt_cp s k w hz c t hc hd)
  have START := Lib.hid (show WRel s addrC ([117, 114, 108, 40] ++ encs (addrC l)) ⟨#[117, 114, 108, 40]⟩ 0 l from ⟨hd, hl, rfl, by decide⟩)
  clear hd hl
  go_enter Tryz.func27, Tryz.ntmps27
  go_wp2
  go_loop [3, 4] (fun o at_ => ∃ (O : ByteArray) (k : Nat) (rest : List Nat), o = .string O ∧ at_ = .int .i64 k ∧ k ≤ s.size ∧ WRel s addrC ([117, 114, 108, 40] ++ encs (addrC l)) O k rest) (fun _ at_ => s.size - (intOf at_).toNat)
  case atStart => exact ⟨_, 0, l, rfl, rfl, Nat.zero_le _, START.out⟩
  case round =>
    obtain ⟨O, k, rest, rfl, rfl, hk, hW⟩ := hrel
    have hO : O.size ≤ 40 * k + 40 := hW.2.2.2
    cases rest with
    | nil =>
      have hks := rest_nil s k hW.1
      have hfin := hW.2.2.1
      rw [show addrC [] = [] from rfl, encs_nil, List.append_nil] at hfin
      have F := Lib.hid (show O ++ ⟨#[41]⟩ = strOf (addrT l) by
        apply eq_strOf
        rw [app_list, hfin, addrT_encs]
        rfl)
      clear hfin hW
      go_wp2
      go_ret
      exact ⟨by rw [← F.out]; rfl, rfl⟩
    | cons c t =>
      have hc := hW.2.1 c (by simp)
      have hcl : 1 ≤ c := hc.1
      have hcu : c ≤ 1114111 := by unfold Cp at hc; omega
      have hkn := next_le s k c t hk hW.1
      have hpl := piece_list s k c t hW.1
      have hn := enc_len c
      have hcs := coded_size c hc
      have cR := R.out k w c t hc hW.1
      have cC := specControl (c : Int) w
      have cS := specSpace (c : Int) w
      have cD := coded c w hcl (by omega)
      rw [ctl_nat] at cC
      rw [sp_nat] at cS
      have hnd := addrC_cons c t
      obtain ⟨n, hne⟩ : ∃ n, (enc c).length = n := ⟨_, rfl⟩
      have STEP := Lib.hid (fun x hx hl p hp => wrel_step (F' := addrC) hW (x := x) hx hl (p := p) hp)
      have PL := Lib.hid hpl
      have CS := Lib.hid hcs
      rw [hne] at cR hkn hn STEP PL
      have hkz : (k : Int) + (n : Int) ≤ (s.size : Int) := by omega
      have hkz0 : (k : Int) ≤ (k : Int) + (n : Int) := by omega
      have CR := Lib.hid cR
      have CC := Lib.hid cC
      have CW := Lib.hid cS
      have CD := Lib.hid cD
      clear hcs hpl hW hne cR cC cD cS hc
      by_cases h1 : isCtl c = true
      · rw [h1] at CC
        rw [addrChar_ctl h1] at hnd
        have ND := Lib.hid hnd
        clear h1 hnd
        go_wp2_with (first | (go_at_call 39; refine (CR.out).mono ?_; rintro e w' ⟨rfl, rfl⟩) | (go_at_call 40; refine (CC.out).mono ?_; rintro e w' ⟨rfl, rfl⟩))
        refine (CD.out).mono ?_
        rintro e w' ⟨⟨p, rfl, hp⟩, rfl⟩
        have hps : p.size ≤ 32 := by rw [size_of hp]; exact CS.out
        have PP := Lib.hid hp
        clear hp
        go_wp2_with fail
        go_round
        case rel => exact ⟨O ++ p, k + n, t, rfl, by go_num, hkn, STEP.out _ ND.out (by have := CS.out; omega) _ PP.out⟩
        case measure => simp [intOf]; omega
      · have h1' : isCtl c = false := by simpa using h1
        rw [h1'] at CC
        by_cases h2 : isWs c = true
        · rw [h2] at CW
          rw [addrChar_back h1 (.inl h2)] at hnd
          have ND := Lib.hid hnd
          clear h1 h1' hnd h2
          go_wp2_with (first | (go_at_call 39; refine (CR.out).mono ?_; rintro e w' ⟨rfl, rfl⟩) | (go_at_call 40; refine (CC.out).mono ?_; rintro e w' ⟨rfl, rfl⟩) | (go_at_call 45; refine (CW.out).mono ?_; rintro e w' ⟨rfl, rfl⟩))
          go_round
          case rel => exact ⟨_, k + n, t, rfl, by go_num, hkn, STEP.out _ ND.out (back_size c) _ (back_list _ c PL.out _ rfl)⟩
          case measure => simp [intOf]; omega
        · have h2' : isWs c = false := by simpa using h2
          rw [h2'] at CW
          by_cases h3 : c = 34 ∨ c = 39 ∨ c = 40 ∨ c = 41 ∨ c = 92
          · rw [addrChar_back h1 (.inr h3)] at hnd
            have ND := Lib.hid hnd
            clear h1 h1' hnd h2 h2'
            rcases h3 with rfl | rfl | rfl | rfl | rfl
            all_goals
              go_wp2_with (first | (go_at_call 39; refine (CR.out).mono ?_; rintro e w' ⟨rfl, rfl⟩) | (go_at_call 40; refine (CC.out).mono ?_; rintro e w' ⟨rfl, rfl⟩) | (go_at_call 45; refine (CW.out).mono ?_; rintro e w' ⟨rfl, rfl⟩))
              go_round
              case rel => exact ⟨_, k + n, t, rfl, by go_num, hkn, STEP.out _ ND.out (back_size _) _ (back_list _ _ PL.out _ rfl)⟩
              case measure => simp [intOf]; omega
          · rw [addrChar_raw h1 (by rw [h2']; simpa using h3)] at hnd
            have ND := Lib.hid hnd
            have t1 : ((c : Int) == 34) = false := beq_eq_false_iff_ne.2 (by omega)
            have t2 : ((c : Int) == 39) = false := beq_eq_false_iff_ne.2 (by omega)
            have t3 : ((c : Int) == 40) = false := beq_eq_false_iff_ne.2 (by omega)
            have t4 : ((c : Int) == 41) = false := beq_eq_false_iff_ne.2 (by omega)
            have t5 : ((c : Int) == 92) = false := beq_eq_false_iff_ne.2 (by omega)
            clear h1 h1' h2 hnd h2' h3
            go_wp2_with (first | (go_at_call 39; refine (CR.out).mono ?_; rintro e w' ⟨rfl, rfl⟩) | (go_at_call 40; refine (CC.out).mono ?_; rintro e w' ⟨rfl, rfl⟩) | (go_at_call 45; refine (CW.out).mono ?_; rintro e w' ⟨rfl, rfl⟩))
            go_round
            case rel => exact ⟨_, k + n, t, rfl, by go_num, hkn, STEP.out _ ND.out (raw_size c) _ (by rw [encs_one]; exact PL.out)⟩
            case measure => simp [intOf]; omega
end Go.Proofs.YtmgkccnfhkcncaaGreatDoor
