/-
  spec.Quoted: what it writes of a plain text; the world is as it was.
-/
import Derived.Test.YtmgkccnfhkcncaaGreatDoorUnit
namespace Go.Proofs.YtmgkccnfhkcncaaGreatDoor
open Go.RowKit

theorem quoteC_cons (q c : Nat) (t : List Nat) : quoteC q (c :: t) = quoteChar q c ++ quoteC q t := by simp [quoteC]
theorem quoteChar_ctl {q c : Nat} (h : isCtl c = true) : quoteChar q c = codedC 1 c := by unfold quoteChar; rw [if_pos h]
theorem quoteChar_back {q c : Nat} (h : ¬ isCtl c = true) (h2 : c = q ∨ c = 92) : quoteChar q c = [92, c] := by unfold quoteChar; rw [if_neg h, if_pos h2]
theorem quoteChar_raw {q c : Nat} (h : ¬ isCtl c = true) (h2 : ¬ (c = q ∨ c = 92)) : quoteChar q c = [c] := by unfold quoteChar; rw [if_neg h, if_neg h2]
theorem encode_34 : (Utf8.encode (34 : Int)).data.toList = enc 34 := by decide +kernel
theorem encode_39 : (Utf8.encode (39 : Int)).data.toList = enc 39 := by decide +kernel
theorem size_34 : (Utf8.encode (34 : Int)).size = 1 := by decide +kernel
theorem size_39 : (Utf8.encode (39 : Int)).size = 1 := by decide +kernel

set_option maxHeartbeats 4000000 in
set_option maxRecDepth 100000 in
theorem specQuoted (s : ByteArray) (w : World) (hz : s.size ≤ 4294967296) (l : List Nat) (hl : ∀ c ∈ l, Cp c) (hd : s.data.toList = encs l) (q : Nat) (z : Int) (hqz : z = (q : Int)) (Q : ByteArray) (hQ : Utf8.encode z = Q) (hQl : Q.data.toList = enc q) (hQs : Q.size ≤ 1) (hz0 : 0 ≤ z) (hz1 : z < 128) :
    Calls Tryz.prog 30 #[.string s, .int .u8 z] w fun e w' => e = .returned (.string (strOf (q :: (quoteC q l ++ [q])))) ∧ w' = w := by
  have R := Lib.hid (fun k w c t hc hd => runeAt_cp s k w hz c t hc hd)
  have START := Lib.hid (show WRel s (quoteC q) (enc q ++ encs (quoteC q l)) Q 0 l from ⟨hd, hl, by rw [hQl], by omega⟩)
  have QL := Lib.hid hQl
  have QZ := Lib.hid hqz
  clear hd hl hqz hQl
  go_enter Tryz.func30, Tryz.ntmps30
  go_wp2
  go_loop [5, 6] (fun o at_ => ∃ (O : ByteArray) (k : Nat) (rest : List Nat), o = .string O ∧ at_ = .int .i64 k ∧ k ≤ s.size ∧ WRel s (quoteC q) (enc q ++ encs (quoteC q l)) O k rest) (fun _ at_ => s.size - (intOf at_).toNat)
  case atStart => exact ⟨_, 0, l, rfl, rfl, Nat.zero_le _, START.out⟩
  case round =>
    obtain ⟨O, k, rest, rfl, rfl, hk, hW⟩ := hrel
    have hO : O.size ≤ 40 * k + 40 := hW.2.2.2
    cases rest with
    | nil =>
      have hks := rest_nil s k hW.1
      have hfin := hW.2.2.1
      rw [show quoteC q [] = [] from rfl, encs_nil, List.append_nil] at hfin
      have F := Lib.hid (show O ++ Q = strOf (q :: (quoteC q l ++ [q])) by
        apply eq_strOf
        rw [app_list, hfin, QL.out, encs_cons, encs_append, encs_one, List.append_assoc])
      clear hfin hW
      go_wp2
      go_ret
      exact ⟨by rw [← F.out]; rfl, rfl⟩
    | cons c t =>
      have hc := hW.2.1 c (by simp)
      have hcl : 1 ≤ c := hc.1
      have hcu : c ≤ 1114111 := by unfold Cp at hc; omega
      have hkn := next_le s k c t hk hW.1
      have hpl := piece_list s k c t hW.1
      have hn := enc_len c
      have hcs := coded_size c hc
      have cR := R.out k w c t hc hW.1
      have cC := specControl (c : Int) w
      have cD := coded c w hcl (by omega)
      rw [ctl_nat] at cC
      have hnd := quoteC_cons q c t
      obtain ⟨n, hne⟩ : ∃ n, (enc c).length = n := ⟨_, rfl⟩
      have STEP := Lib.hid (fun x hx hl p hp => wrel_step (F' := quoteC q) hW (x := x) hx hl (p := p) hp)
      have PL := Lib.hid hpl
      have CS := Lib.hid hcs
      rw [hne] at cR hkn hn STEP PL
      have hkz : (k : Int) + (n : Int) ≤ (s.size : Int) := by omega
      have hkz0 : (k : Int) ≤ (k : Int) + (n : Int) := by omega
      have CR := Lib.hid cR
      have CC := Lib.hid cC
      have CD := Lib.hid cD
      clear hcs hpl hW hne cR cC cD hc
      by_cases h1 : isCtl c = true
      · rw [h1] at CC
        rw [quoteChar_ctl h1] at hnd
        have ND := Lib.hid hnd
        clear h1 hnd
        go_wp2_with (first | (go_at_call 39; refine (CR.out).mono ?_; rintro e w' ⟨rfl, rfl⟩) | (go_at_call 40; refine (CC.out).mono ?_; rintro e w' ⟨rfl, rfl⟩))
        refine (CD.out).mono ?_
        rintro e w' ⟨⟨p, rfl, hp⟩, rfl⟩
        have hps : p.size ≤ 32 := by rw [size_of hp]; exact CS.out
        have PP := Lib.hid hp
        clear hp
        go_wp2_with fail
        go_round
        case rel => exact ⟨O ++ p, k + n, t, rfl, by go_num, hkn, STEP.out _ ND.out (by have := CS.out; omega) _ PP.out⟩
        case measure => simp [intOf]; omega
      · have h1' : isCtl c = false := by simpa using h1
        rw [h1'] at CC
        by_cases h2 : c = q ∨ c = 92
        · rw [quoteChar_back h1 h2] at hnd
          have ND := Lib.hid hnd
          clear h1 h1' hnd
          by_cases h3 : (c : Int) = z
          · have t1 : ((c : Int) == z) = true := beq_iff_eq.2 h3
            clear h2 h3
            go_wp2_with (first | (go_at_call 39; refine (CR.out).mono ?_; rintro e w' ⟨rfl, rfl⟩) | (go_at_call 40; refine (CC.out).mono ?_; rintro e w' ⟨rfl, rfl⟩))
            go_round
            case rel => exact ⟨_, k + n, t, rfl, by go_num, hkn, STEP.out _ ND.out (back_size c) _ (back_list _ c PL.out _ rfl)⟩
            case measure => simp [intOf]; omega
          · obtain rfl : c = 92 := by have := QZ.out; omega
            have t1 : ((92 : Int) == z) = false := beq_eq_false_iff_ne.2 (by omega)
            clear h2 h3
            go_wp2_with (first | (go_at_call 39; refine (CR.out).mono ?_; rintro e w' ⟨rfl, rfl⟩) | (go_at_call 40; refine (CC.out).mono ?_; rintro e w' ⟨rfl, rfl⟩))
            go_round
            case rel => exact ⟨_, k + n, t, rfl, by go_num, hkn, STEP.out _ ND.out (back_size 92) _ (back_list _ 92 PL.out _ rfl)⟩
            case measure => simp [intOf]; omega
        · rw [quoteChar_raw h1 h2] at hnd
          have ND := Lib.hid hnd
          have t1 : ((c : Int) == z) = false := beq_eq_false_iff_ne.2 (by have := QZ.out; omega)
          have t2 : ((c : Int) == 92) = false := beq_eq_false_iff_ne.2 (by omega)
          clear h1 h1' h2 hnd
          go_wp2_with (first | (go_at_call 39; refine (CR.out).mono ?_; rintro e w' ⟨rfl, rfl⟩) | (go_at_call 40; refine (CC.out).mono ?_; rintro e w' ⟨rfl, rfl⟩))
          go_round
          case rel => exact ⟨_, k + n, t, rfl, by go_num, hkn, STEP.out _ ND.out (raw_size c) _ (by rw [encs_one]; exact PL.out)⟩
          case measure => simp [intOf]; omega

theorem quoted34 (s : ByteArray) (w : World) (hz : s.size ≤ 4294967296) (l : List Nat) (hl : ∀ c ∈ l, Cp c) (hd : s.data.toList = encs l) :
    Calls Tryz.prog 30 #[.string s, .int .u8 34] w fun e w' => e = .returned (.string (strOf (34 :: (quoteC 34 l ++ [34])))) ∧ w' = w :=
  specQuoted s w hz l hl hd 34 34 rfl _ rfl encode_34 (by rw [size_34]; decide) (by decide) (by decide)
theorem quoted39 (s : ByteArray) (w : World) (hz : s.size ≤ 4294967296) (l : List Nat) (hl : ∀ c ∈ l, Cp c) (hd : s.data.toList = encs l) :
    Calls Tryz.prog 30 #[.string s, .int .u8 39] w fun e w' => e = .returned (.string (strOf (39 :: (quoteC 39 l ++ [39])))) ∧ w' = w :=
  specQuoted s w hz l hl hd 39 39 rfl _ rfl encode_39 (by rw [size_39]; decide) (by decide) (by decide)
theorem quoteC_len (q : Nat) : ∀ (l : List Nat), (∀ c ∈ l, Cp c) → (quoteC q l).length ≤ 8 * l.length
  | [], _ => Nat.le_refl _
  | c :: t, h => by
    have h2 := quoteC_len q t fun d hd => h d (by simp [hd])
    have h1 : (quoteChar q c).length ≤ 8 := by
      unfold quoteChar
      by_cases h1 : isCtl c = true
      · rw [if_pos h1]; exact codedC_len 1 c (h c (by simp)) (by omega)
      · rw [if_neg h1]
        by_cases h2 : c = q ∨ c = 92
        · rw [if_pos h2]; simp
        · rw [if_neg h2]; simp
    rw [quoteC_cons, List.length_append, List.length_cons]; omega
end Go.Proofs.YtmgkccnfhkcncaaGreatDoor
