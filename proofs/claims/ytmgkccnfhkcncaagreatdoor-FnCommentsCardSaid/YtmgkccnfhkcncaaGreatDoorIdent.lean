/-
  spec.Identifier and spec.Unit: what they write of a plain name; the world is as it was.
-/
import Derived.Test.YtmgkccnfhkcncaaGreatDoorWrt
import Derived.Deep.QuietTactic
import Derived.BigQuiet
namespace Go.Proofs.YtmgkccnfhkcncaaGreatDoor
open Go.RowKit

/-- What Identifier writes from place k on (f: the first code point). -/
def idF (k : Nat) (f : Int) (rest : List Nat) : List Nat :=
  if k = 0 then identC rest else match rest with
  | [] => []
  | d :: u => idChar (decide (k = 1 ∧ f = 45)) false d ++ idRest false u
theorem idF_zero (f : Int) (rest : List Nat) : idF 0 f rest = identC rest := rfl
theorem idF_cons {k : Nat} {f : Int} (hk : 0 < k) (d : Nat) (u : List Nat) : idF k f (d :: u) = idChar (decide (k = 1 ∧ f = 45)) false d ++ idRest false u := by
  unfold idF; rw [if_neg (by omega)]
theorem idF_two {k : Nat} {f : Int} (hk : 2 ≤ k) (u : List Nat) : idF k f u = idRest false u := by
  cases u with
  | nil => unfold idF; rw [if_neg (by omega)]; rfl
  | cons d u =>
    rw [idF_cons (by omega), decide_eq_false (by omega)]
    simp [idRest]
theorem idF_step {k : Nat} {f : Int} (hk : 0 < k) {n : Nat} (hn : 1 ≤ n) (g : Int) (d : Nat) (u : List Nat) : idF k f (d :: u) = idChar (decide (k = 1 ∧ f = 45)) false d ++ idF (k + n) g u := by
  rw [idF_cons hk, idF_two (by omega)]
theorem idF_first (f : Int) {n : Nat} (c : Nat) (t : List Nat) (hn : n = (enc c).length) : idF 0 f (c :: t) = idChar true (decide (c :: t = [45])) c ++ idF (0 + n) (c : Int) t := by
  have h1 := (enc_len c).1
  cases t with
  | nil =>
    rw [idF_zero]
    have : idF (0 + n) (c : Int) [] = [] := by unfold idF; rw [if_neg (by omega)]
    rw [this, List.append_nil]
    show idChar true (c == 45) c = _
    congr 1
    rw [Bool.eq_iff_iff]; simp
  | cons d u =>
    rw [idF_zero, idF_cons (by omega), decide_eq_false (by simp)]
    have : decide (0 + n = 1 ∧ (c : Int) = 45) = (c == 45) := by
      rw [Bool.eq_iff_iff, decide_eq_true_iff, beq_iff_eq]
      constructor
      · intro h; omega
      · intro h
        refine ⟨?_, by omega⟩
        rw [hn, h, enc_ascii 45 (by omega)]; rfl
    rw [this]
    show idChar true false c ++ idChar (c == 45) false d ++ idRest false u = _
    rw [List.append_assoc]

set_option maxHeartbeats 8000000 in
set_option maxRecDepth 100000 in
theorem specIdentifier (s : ByteArray) (w : World) (hz : s.size ≤ 4294967296) (l : List Nat) (hl : ∀ c ∈ l, Cp c) (hd : s.data.toList = encs l) :
    Calls Tryz.prog 21 #[.string s] w fun e w' => (∃ o : ByteArray, e = .returned (.string o) ∧ o.data.toList = encs (identC l)) ∧ w = w' := by
  have R := Lib.hid (fun k w c t hc hd => runeAt_cp s k w hz c t hc hd)
  have START := Lib.hid (show WRel s (idF 0 (-1)) (encs (identC l)) ⟨#[]⟩ 0 l from ⟨hd, hl, rfl, Nat.zero_le _⟩)
  have LL := Lib.hid hd
  clear hd hl
  go_enter Tryz.func21, Tryz.ntmps21
  go_wp2
  go_loop [3, 4, 5] (fun o fi at_ => ∃ (O : ByteArray) (f : Int) (k : Nat) (rest : List Nat), o = .string O ∧ fi = .int .i64 f ∧ at_ = .int .i64 k ∧ k ≤ s.size ∧ WRel s (idF k f) (encs (identC l)) O k rest ∧ (k = 0 → rest = l)) (fun _ _ at_ => s.size - (intOf at_).toNat)
  case atStart => exact ⟨_, -1, 0, l, rfl, rfl, rfl, Nat.zero_le _, START.out, fun _ => rfl⟩
  case round =>
    obtain ⟨O, f, k, rest, rfl, rfl, rfl, hk, hW, hkl⟩ := hrel
    have hO : O.size ≤ 40 * k + 40 := hW.2.2.2
    cases rest with
    | nil =>
      have hks := rest_nil s k hW.1
      have hfin := hW.2.2.1
      have hnil : idF k f [] = [] := by
        unfold idF
        by_cases h : k = 0
        · rw [if_pos h]; rfl
        · rw [if_neg h]
      rw [hnil, encs_nil, List.append_nil] at hfin
      have F := Lib.hid hfin
      clear hfin hW hkl hnil
      go_wp2
      go_ret
      exact ⟨⟨_, rfl, F.out⟩, rfl⟩
    | cons c t =>
      have hc := hW.2.1 c (by simp)
      have hcl : 1 ≤ c := hc.1
      have hcu : c ≤ 1114111 := by unfold Cp at hc; omega
      have hkn := next_le s k c t hk hW.1
      have hpl := piece_list s k c t hW.1
      have hn := enc_len c
      have hcs := coded_size c hc
      have cR := R.out k w c t hc hW.1
      have cC := specControl (c : Int) w
      have cG := specDigit (c : Int) w
      have cS := specContinues (c : Int) w
      have cD := coded c w hcl (by omega)
      rw [ctl_nat] at cC
      rw [sc_nat] at cS
      rw [dg_nat] at cG
      have hlist : s.toList = encs l := by rw [Lib.toList_data]; exact LL.out
      obtain ⟨n, hne⟩ : ∃ n, (enc c).length = n := ⟨_, rfl⟩
      have STEP := Lib.hid (fun F' x hx hl p hp => wrel_step (F' := F') hW (x := x) hx hl (p := p) hp)
      have PL := Lib.hid hpl
      have CS := Lib.hid hcs
      have hfirst := fun f => idF_first f (n := n) c t hne.symm
      rw [hne] at cR hkn hn STEP PL
      have hkz : (k : Int) + (n : Int) ≤ (s.size : Int) := by omega
      have hkz0 : (k : Int) ≤ (k : Int) + (n : Int) := by omega
      have CR := Lib.hid cR
      have CC := Lib.hid cC
      have CG := Lib.hid cG
      have CO := Lib.hid cS
      have CD := Lib.hid cD
      have DR := Lib.hid hW.1
      clear hcs hpl cR cC cS cD cG hc
      by_cases hk0 : k = 0
      · subst hk0
        have hnd := hfirst f
        have hlone : l = c :: t := (hkl rfl).symm
        have hnl : (s.toList == [45]) = decide (c :: t = [45]) := by
          rw [hlist, hlone, Bool.eq_iff_iff, beq_iff_eq, decide_eq_true_iff]
          constructor
          · intro h
            refine encs_inj _ [45] hW.2.1 (by intro x hx; simp at hx; subst hx; unfold Cp; omega) ?_
            rw [h, encs_one, enc_ascii 45 (by omega)]; rfl
          · intro h; rw [h, encs_one, enc_ascii 45 (by omega)]; rfl
        have hl45 : decide (c :: t = [45]) = true → isCtl c = false ∧ isDg c = false ∧ conts c = true := by
          intro h
          have := of_decide_eq_true h
          simp at this
          rw [this.1]; exact ⟨rfl, rfl, rfl⟩
        rw [Nat.zero_add] at PL hkn
        clear hkz hkz0
        have hkz : (n : Int) ≤ (s.size : Int) := by omega
        generalize decide (c :: t = [45]) = lone at hnl hnd hl45
        clear hfirst hkl hne hW hlist hlone
        by_cases h1 : isCtl c = true
        · rw [idChar_ctl (.inl h1)] at hnd
          rw [h1] at CC
          have ND := Lib.hid hnd
          have hlf : lone = false := by cases lone with | false => rfl | true => have := (hl45 rfl).1; rw [h1] at this; exact absurd this (by simp)
          subst hlf
          clear hl45
          clear h1 hnd
          go_wp2_with (first | (go_at_call 39; refine (CR.out).mono ?_; rintro e w' ⟨rfl, rfl⟩) | (go_at_call 40; refine (CC.out).mono ?_; rintro e w' ⟨rfl, rfl⟩) | (go_at_call 41; refine (CG.out).mono ?_; rintro e w' ⟨rfl, rfl⟩) | (go_at_call 43; refine (CO.out).mono ?_; rintro e w' ⟨rfl, rfl⟩))
          refine (CD.out).mono ?_
          rintro e w' ⟨⟨q, rfl, hq⟩, rfl⟩
          have hqs : q.size ≤ 32 := by rw [size_of hq]; exact CS.out
          have Q := Lib.hid hq
          clear hq
          go_wp2_with fail
          go_round
          case rel => exact ⟨_, (c : Int), 0 + n, t, rfl, by go_num, by go_num, by omega, STEP.out _ _ ND.out (by have := CS.out; omega) _ Q.out, fun h => absurd h (by omega)⟩
          case measure => simp [intOf]; omega
        · have h1' : isCtl c = false := by simpa using h1
          rw [h1'] at CC
          by_cases h2 : isDg c = true
          · rw [idChar_ctl (.inr ⟨h2, rfl⟩)] at hnd
            rw [h2] at CG
            have ND := Lib.hid hnd
            have hlf : lone = false := by cases lone with | false => rfl | true => have := (hl45 rfl).2.1; rw [h2] at this; exact absurd this (by simp)
            subst hlf
            clear hl45
            clear h1 h1' h2 hnd
            go_wp2_with (first | (go_at_call 39; refine (CR.out).mono ?_; rintro e w' ⟨rfl, rfl⟩) | (go_at_call 40; refine (CC.out).mono ?_; rintro e w' ⟨rfl, rfl⟩) | (go_at_call 41; refine (CG.out).mono ?_; rintro e w' ⟨rfl, rfl⟩) | (go_at_call 43; refine (CO.out).mono ?_; rintro e w' ⟨rfl, rfl⟩))
            refine (CD.out).mono ?_
            rintro e w' ⟨⟨q, rfl, hq⟩, rfl⟩
            have hqs : q.size ≤ 32 := by rw [size_of hq]; exact CS.out
            have Q := Lib.hid hq
            clear hq
            go_wp2_with fail
            go_round
            case rel => exact ⟨_, (c : Int), 0 + n, t, rfl, by go_num, by go_num, by omega, STEP.out _ _ ND.out (by have := CS.out; omega) _ Q.out, fun h => absurd h (by omega)⟩
            case measure => simp [intOf]; omega
          · have h2' : isDg c = false := by simpa using h2
            rw [h2'] at CG
            have hnc : ∀ b : Bool, ¬ (isCtl c = true ∨ (isDg c = true ∧ b = true)) := by rintro b (h | ⟨h, _⟩); exact h1 h; exact h2 h
            by_cases h3 : conts c = true
            · rw [h3] at CO
              cases lone
              · rw [idChar_raw (hnc _) ⟨h3, rfl⟩] at hnd
                have ND := Lib.hid hnd
                clear h1 h1' h2 h2' h3 hnc hnd hl45
                go_wp2_with (first | (go_at_call 39; refine (CR.out).mono ?_; rintro e w' ⟨rfl, rfl⟩) | (go_at_call 40; refine (CC.out).mono ?_; rintro e w' ⟨rfl, rfl⟩) | (go_at_call 41; refine (CG.out).mono ?_; rintro e w' ⟨rfl, rfl⟩) | (go_at_call 43; refine (CO.out).mono ?_; rintro e w' ⟨rfl, rfl⟩))
                go_round
                case rel => exact ⟨_, (c : Int), 0 + n, t, rfl, by go_num, by go_num, by omega, STEP.out _ _ ND.out (raw_size c) _ (by rw [encs_one]; exact PL.out), fun h => absurd h (by omega)⟩
                case measure => simp [intOf]; omega
              · rw [idChar_back (hnc _) (fun h => absurd h.2 (by simp))] at hnd
                have ND := Lib.hid hnd
                clear h1 h1' h2 h2' h3 hnc hnd hl45
                go_wp2_with (first | (go_at_call 39; refine (CR.out).mono ?_; rintro e w' ⟨rfl, rfl⟩) | (go_at_call 40; refine (CC.out).mono ?_; rintro e w' ⟨rfl, rfl⟩) | (go_at_call 41; refine (CG.out).mono ?_; rintro e w' ⟨rfl, rfl⟩) | (go_at_call 43; refine (CO.out).mono ?_; rintro e w' ⟨rfl, rfl⟩))
                go_round
                case rel => exact ⟨_, (c : Int), 0 + n, t, rfl, by go_num, by go_num, by omega, STEP.out _ _ ND.out (back_size c) _ (back_list _ c PL.out _ rfl), fun h => absurd h (by omega)⟩
                case measure => simp [intOf]; omega
            · have h3' : conts c = false := by simpa using h3
              rw [h3'] at CO
              rw [idChar_back (hnc _) (fun h => h3 h.1)] at hnd
              have ND := Lib.hid hnd
              have hlf : lone = false := by cases lone with | false => rfl | true => have := (hl45 rfl).2.2; rw [h3'] at this; exact absurd this (by simp)
              subst hlf
              clear hl45
              clear h1 h1' h2 h2' h3 h3' hnc hnd
              go_wp2_with (first | (go_at_call 39; refine (CR.out).mono ?_; rintro e w' ⟨rfl, rfl⟩) | (go_at_call 40; refine (CC.out).mono ?_; rintro e w' ⟨rfl, rfl⟩) | (go_at_call 41; refine (CG.out).mono ?_; rintro e w' ⟨rfl, rfl⟩) | (go_at_call 43; refine (CO.out).mono ?_; rintro e w' ⟨rfl, rfl⟩))
              go_round
              case rel => exact ⟨_, (c : Int), 0 + n, t, rfl, by go_num, by go_num, by omega, STEP.out _ _ ND.out (back_size c) _ (back_list _ c PL.out _ rfl), fun h => absurd h (by omega)⟩
              case measure => simp [intOf]; omega
      · have hnd := idF_step (k := k) (f := f) (n := n) (by omega) hn.1 f c t
        have hnl : (s.toList == [45]) = false := by
          cases h : s.toList == [45] with
          | false => rfl
          | true =>
            exfalso
            have h2 : s.data.toList = [45] := by rw [← Lib.toList_data]; exact eq_of_beq h
            have h3 : s.size = 1 := size_of h2
            omega
        have k0 : ((k : Int) == 0) = false := beq_eq_false_iff_ne.2 (by omega)
        clear hfirst hkl hne hW hlist
        by_cases hk1 : k = 1
        · subst hk1
          by_cases hf : f = 45
          · subst hf
            rw [decide_eq_true (by simp)] at hnd
            by_cases h1 : isCtl c = true
            · rw [idChar_ctl (.inl h1)] at hnd
              rw [h1] at CC
              have ND := Lib.hid hnd
              clear h1 hnd
              go_wp2_with (first | (go_at_call 39; refine (CR.out).mono ?_; rintro e w' ⟨rfl, rfl⟩) | (go_at_call 40; refine (CC.out).mono ?_; rintro e w' ⟨rfl, rfl⟩) | (go_at_call 41; refine (CG.out).mono ?_; rintro e w' ⟨rfl, rfl⟩) | (go_at_call 43; refine (CO.out).mono ?_; rintro e w' ⟨rfl, rfl⟩))
              refine (CD.out).mono ?_
              rintro e w' ⟨⟨q, rfl, hq⟩, rfl⟩
              have hqs : q.size ≤ 32 := by rw [size_of hq]; exact CS.out
              have Q := Lib.hid hq
              clear hq
              go_wp2_with fail
              go_round
              case rel => exact ⟨_, 45, 1 + n, t, rfl, by go_num, by go_num, by omega, STEP.out _ _ ND.out (by have := CS.out; omega) _ Q.out, fun h => absurd h (by omega)⟩
              case measure => simp [intOf]; omega
            · have h1' : isCtl c = false := by simpa using h1
              rw [h1'] at CC
              by_cases h2 : isDg c = true
              · rw [idChar_ctl (.inr ⟨h2, rfl⟩)] at hnd
                rw [h2] at CG
                have ND := Lib.hid hnd
                clear h1 h1' h2 hnd
                go_wp2_with (first | (go_at_call 39; refine (CR.out).mono ?_; rintro e w' ⟨rfl, rfl⟩) | (go_at_call 40; refine (CC.out).mono ?_; rintro e w' ⟨rfl, rfl⟩) | (go_at_call 41; refine (CG.out).mono ?_; rintro e w' ⟨rfl, rfl⟩) | (go_at_call 43; refine (CO.out).mono ?_; rintro e w' ⟨rfl, rfl⟩))
                refine (CD.out).mono ?_
                rintro e w' ⟨⟨q, rfl, hq⟩, rfl⟩
                have hqs : q.size ≤ 32 := by rw [size_of hq]; exact CS.out
                have Q := Lib.hid hq
                clear hq
                go_wp2_with fail
                go_round
                case rel => exact ⟨_, 45, 1 + n, t, rfl, by go_num, by go_num, by omega, STEP.out _ _ ND.out (by have := CS.out; omega) _ Q.out, fun h => absurd h (by omega)⟩
                case measure => simp [intOf]; omega
              · have h2' : isDg c = false := by simpa using h2
                rw [h2'] at CG
                have hnc : ∀ b : Bool, ¬ (isCtl c = true ∨ (isDg c = true ∧ b = true)) := by rintro b (h | ⟨h, _⟩); exact h1 h; exact h2 h
                by_cases h3 : conts c = true
                · rw [h3] at CO
                  rw [idChar_raw (hnc _) ⟨h3, rfl⟩] at hnd
                  have ND := Lib.hid hnd
                  clear h1 h1' h2 h2' h3 hnc hnd
                  go_wp2_with (first | (go_at_call 39; refine (CR.out).mono ?_; rintro e w' ⟨rfl, rfl⟩) | (go_at_call 40; refine (CC.out).mono ?_; rintro e w' ⟨rfl, rfl⟩) | (go_at_call 41; refine (CG.out).mono ?_; rintro e w' ⟨rfl, rfl⟩) | (go_at_call 43; refine (CO.out).mono ?_; rintro e w' ⟨rfl, rfl⟩))
                  go_round
                  case rel => exact ⟨_, 45, 1 + n, t, rfl, by go_num, by go_num, by omega, STEP.out _ _ ND.out (raw_size c) _ (by rw [encs_one]; exact PL.out), fun h => absurd h (by omega)⟩
                  case measure => simp [intOf]; omega
                · have h3' : conts c = false := by simpa using h3
                  rw [h3'] at CO
                  rw [idChar_back (hnc _) (fun h => h3 h.1)] at hnd
                  have ND := Lib.hid hnd
                  clear h1 h1' h2 h2' h3 h3' hnc hnd
                  go_wp2_with (first | (go_at_call 39; refine (CR.out).mono ?_; rintro e w' ⟨rfl, rfl⟩) | (go_at_call 40; refine (CC.out).mono ?_; rintro e w' ⟨rfl, rfl⟩) | (go_at_call 41; refine (CG.out).mono ?_; rintro e w' ⟨rfl, rfl⟩) | (go_at_call 43; refine (CO.out).mono ?_; rintro e w' ⟨rfl, rfl⟩))
                  go_round
                  case rel => exact ⟨_, 45, 1 + n, t, rfl, by go_num, by go_num, by omega, STEP.out _ _ ND.out (back_size c) _ (back_list _ c PL.out _ rfl), fun h => absurd h (by omega)⟩
                  case measure => simp [intOf]; omega
          · rw [decide_eq_false (by omega)] at hnd
            have f0 : ((f : Int) == 45) = false := beq_eq_false_iff_ne.2 hf
            clear hf
            by_cases h1 : isCtl c = true
            · rw [idChar_ctl (.inl h1)] at hnd
              rw [h1] at CC
              have ND := Lib.hid hnd
              clear h1 hnd
              go_wp2_with (first | (go_at_call 39; refine (CR.out).mono ?_; rintro e w' ⟨rfl, rfl⟩) | (go_at_call 40; refine (CC.out).mono ?_; rintro e w' ⟨rfl, rfl⟩) | (go_at_call 41; refine (CG.out).mono ?_; rintro e w' ⟨rfl, rfl⟩) | (go_at_call 43; refine (CO.out).mono ?_; rintro e w' ⟨rfl, rfl⟩))
              refine (CD.out).mono ?_
              rintro e w' ⟨⟨q, rfl, hq⟩, rfl⟩
              have hqs : q.size ≤ 32 := by rw [size_of hq]; exact CS.out
              have Q := Lib.hid hq
              clear hq
              go_wp2_with fail
              go_round
              case rel => exact ⟨_, f, 1 + n, t, rfl, by go_num, by go_num, by omega, STEP.out _ _ ND.out (by have := CS.out; omega) _ Q.out, fun h => absurd h (by omega)⟩
              case measure => simp [intOf]; omega
            · have h1' : isCtl c = false := by simpa using h1
              rw [h1'] at CC
              by_cases h2 : isDg c = true
              · have h3 : conts c = true := by have := of_decide_eq_true h2; exact decide_eq_true (by omega)
                rw [idChar_raw (by rintro (h | ⟨_, h⟩); exact h1 h; exact absurd h (by simp)) ⟨h3, rfl⟩] at hnd
                rw [h2] at CG
                rw [h3] at CO
                have ND := Lib.hid hnd
                clear h1 h1' h2 h3 hnd
                go_wp2_with (first | (go_at_call 39; refine (CR.out).mono ?_; rintro e w' ⟨rfl, rfl⟩) | (go_at_call 40; refine (CC.out).mono ?_; rintro e w' ⟨rfl, rfl⟩) | (go_at_call 41; refine (CG.out).mono ?_; rintro e w' ⟨rfl, rfl⟩) | (go_at_call 43; refine (CO.out).mono ?_; rintro e w' ⟨rfl, rfl⟩))
                go_round
                case rel => exact ⟨_, f, 1 + n, t, rfl, by go_num, by go_num, by omega, STEP.out _ _ ND.out (raw_size c) _ (by rw [encs_one]; exact PL.out), fun h => absurd h (by omega)⟩
                case measure => simp [intOf]; omega
              · have h2' : isDg c = false := by simpa using h2
                rw [h2'] at CG
                have hnc : ∀ b : Bool, ¬ (isCtl c = true ∨ (isDg c = true ∧ b = true)) := by rintro b (h | ⟨h, _⟩); exact h1 h; exact h2 h
                by_cases h3 : conts c = true
                · rw [h3] at CO
                  rw [idChar_raw (hnc _) ⟨h3, rfl⟩] at hnd
                  have ND := Lib.hid hnd
                  clear h1 h1' h2 h2' h3 hnc hnd
                  go_wp2_with (first | (go_at_call 39; refine (CR.out).mono ?_; rintro e w' ⟨rfl, rfl⟩) | (go_at_call 40; refine (CC.out).mono ?_; rintro e w' ⟨rfl, rfl⟩) | (go_at_call 41; refine (CG.out).mono ?_; rintro e w' ⟨rfl, rfl⟩) | (go_at_call 43; refine (CO.out).mono ?_; rintro e w' ⟨rfl, rfl⟩))
                  go_round
                  case rel => exact ⟨_, f, 1 + n, t, rfl, by go_num, by go_num, by omega, STEP.out _ _ ND.out (raw_size c) _ (by rw [encs_one]; exact PL.out), fun h => absurd h (by omega)⟩
                  case measure => simp [intOf]; omega
                · have h3' : conts c = false := by simpa using h3
                  rw [h3'] at CO
                  rw [idChar_back (hnc _) (fun h => h3 h.1)] at hnd
                  have ND := Lib.hid hnd
                  clear h1 h1' h2 h2' h3 h3' hnc hnd
                  go_wp2_with (first | (go_at_call 39; refine (CR.out).mono ?_; rintro e w' ⟨rfl, rfl⟩) | (go_at_call 40; refine (CC.out).mono ?_; rintro e w' ⟨rfl, rfl⟩) | (go_at_call 41; refine (CG.out).mono ?_; rintro e w' ⟨rfl, rfl⟩) | (go_at_call 43; refine (CO.out).mono ?_; rintro e w' ⟨rfl, rfl⟩))
                  go_round
                  case rel => exact ⟨_, f, 1 + n, t, rfl, by go_num, by go_num, by omega, STEP.out _ _ ND.out (back_size c) _ (back_list _ c PL.out _ rfl), fun h => absurd h (by omega)⟩
                  case measure => simp [intOf]; omega
        · rw [decide_eq_false (by omega)] at hnd
          have k1 : ((k : Int) == 1) = false := beq_eq_false_iff_ne.2 (by omega)
          by_cases h1 : isCtl c = true
          · rw [idChar_ctl (.inl h1)] at hnd
            rw [h1] at CC
            have ND := Lib.hid hnd
            clear h1 hnd
            go_wp2_with (first | (go_at_call 39; refine (CR.out).mono ?_; rintro e w' ⟨rfl, rfl⟩) | (go_at_call 40; refine (CC.out).mono ?_; rintro e w' ⟨rfl, rfl⟩) | (go_at_call 41; refine (CG.out).mono ?_; rintro e w' ⟨rfl, rfl⟩) | (go_at_call 43; refine (CO.out).mono ?_; rintro e w' ⟨rfl, rfl⟩))
            refine (CD.out).mono ?_
            rintro e w' ⟨⟨q, rfl, hq⟩, rfl⟩
            have hqs : q.size ≤ 32 := by rw [size_of hq]; exact CS.out
            have Q := Lib.hid hq
            clear hq
            go_wp2_with fail
            go_round
            case rel => exact ⟨_, f, k + n, t, rfl, by go_num, by go_num, by omega, STEP.out _ _ ND.out (by have := CS.out; omega) _ Q.out, fun h => absurd h (by omega)⟩
            case measure => simp [intOf]; omega
          · have h1' : isCtl c = false := by simpa using h1
            rw [h1'] at CC
            by_cases h2 : isDg c = true
            · have h3 : conts c = true := by have := of_decide_eq_true h2; exact decide_eq_true (by omega)
              rw [idChar_raw (by rintro (h | ⟨_, h⟩); exact h1 h; exact absurd h (by simp)) ⟨h3, rfl⟩] at hnd
              rw [h2] at CG
              rw [h3] at CO
              have ND := Lib.hid hnd
              clear h1 h1' h2 h3 hnd
              go_wp2_with (first | (go_at_call 39; refine (CR.out).mono ?_; rintro e w' ⟨rfl, rfl⟩) | (go_at_call 40; refine (CC.out).mono ?_; rintro e w' ⟨rfl, rfl⟩) | (go_at_call 41; refine (CG.out).mono ?_; rintro e w' ⟨rfl, rfl⟩) | (go_at_call 43; refine (CO.out).mono ?_; rintro e w' ⟨rfl, rfl⟩))
              go_round
              case rel => exact ⟨_, f, k + n, t, rfl, by go_num, by go_num, by omega, STEP.out _ _ ND.out (raw_size c) _ (by rw [encs_one]; exact PL.out), fun h => absurd h (by omega)⟩
              case measure => simp [intOf]; omega
            · have h2' : isDg c = false := by simpa using h2
              rw [h2'] at CG
              have hnc : ∀ b : Bool, ¬ (isCtl c = true ∨ (isDg c = true ∧ b = true)) := by rintro b (h | ⟨h, _⟩); exact h1 h; exact h2 h
              by_cases h3 : conts c = true
              · rw [h3] at CO
                rw [idChar_raw (hnc _) ⟨h3, rfl⟩] at hnd
                have ND := Lib.hid hnd
                clear h1 h1' h2 h2' h3 hnc hnd
                go_wp2_with (first | (go_at_call 39; refine (CR.out).mono ?_; rintro e w' ⟨rfl, rfl⟩) | (go_at_call 40; refine (CC.out).mono ?_; rintro e w' ⟨rfl, rfl⟩) | (go_at_call 41; refine (CG.out).mono ?_; rintro e w' ⟨rfl, rfl⟩) | (go_at_call 43; refine (CO.out).mono ?_; rintro e w' ⟨rfl, rfl⟩))
                go_round
                case rel => exact ⟨_, f, k + n, t, rfl, by go_num, by go_num, by omega, STEP.out _ _ ND.out (raw_size c) _ (by rw [encs_one]; exact PL.out), fun h => absurd h (by omega)⟩
                case measure => simp [intOf]; omega
              · have h3' : conts c = false := by simpa using h3
                rw [h3'] at CO
                rw [idChar_back (hnc _) (fun h => h3 h.1)] at hnd
                have ND := Lib.hid hnd
                clear h1 h1' h2 h2' h3 h3' hnc hnd
                go_wp2_with (first | (go_at_call 39; refine (CR.out).mono ?_; rintro e w' ⟨rfl, rfl⟩) | (go_at_call 40; refine (CC.out).mono ?_; rintro e w' ⟨rfl, rfl⟩) | (go_at_call 41; refine (CG.out).mono ?_; rintro e w' ⟨rfl, rfl⟩) | (go_at_call 43; refine (CO.out).mono ?_; rintro e w' ⟨rfl, rfl⟩))
                go_round
                case rel => exact ⟨_, f, k + n, t, rfl, by go_num, by go_num, by omega, STEP.out _ _ ND.out (back_size c) _ (back_list _ c PL.out _ rfl), fun h => absurd h (by omega)⟩
                case measure => simp [intOf]; omega
end Go.Proofs.YtmgkccnfhkcncaaGreatDoor
