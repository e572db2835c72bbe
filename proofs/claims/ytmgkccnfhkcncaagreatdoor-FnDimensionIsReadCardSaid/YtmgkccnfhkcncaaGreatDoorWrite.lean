/-
  spec.Name, spec.Identifier, spec.Unit: what they write of a plain name; the world is as it was.
-/
import Derived.Test.YtmgkccnfhkcncaaGreatDoorCoded
import Derived.WalkSpells
namespace Go.Proofs.YtmgkccnfhkcncaaGreatDoor
open Go.RowKit

theorem coded_size (c : Nat) (h : Cp c) : (encs (codedC 1 c)).length ≤ 32 := by
  have h1 := encs_len_ge (codedC 1 c)
  have h2 := digs_len 1 c (by unfold Cp at h; omega) (by omega)
  have : (codedC 1 c).length = (digs 1 c).length + 2 := by unfold codedC; simp
  omega
theorem piece_list (s : ByteArray) (k : Nat) (c : Nat) (t : List Nat) (hd : s.data.toList.drop k = encs (c :: t)) : (s.extract k (k + (enc c).length)).data.toList = enc c := by
  rw [Lib.extract_data, hd, encs_cons, Nat.add_sub_cancel_left, List.take_left]
theorem next_drop (s : ByteArray) (k : Nat) (c : Nat) (t : List Nat) (hd : s.data.toList.drop k = encs (c :: t)) : s.data.toList.drop (k + (enc c).length) = encs t := by
  rw [← List.drop_drop, hd, drop_encs]
theorem next_le (s : ByteArray) (k : Nat) (c : Nat) (t : List Nat) (hk : k ≤ s.size) (hd : s.data.toList.drop k = encs (c :: t)) : k + (enc c).length ≤ s.size := by
  have := congrArg List.length hd
  rw [List.length_drop, encs_cons, List.length_append] at this
  have h2 : s.data.toList.length = s.size := rfl
  have := enc_len c
  omega
theorem rest_nil (s : ByteArray) (k : Nat) (hd : s.data.toList.drop k = encs []) : s.size ≤ k := by
  have := congrArg List.length hd
  rw [List.length_drop] at this
  have h2 : s.data.toList.length = s.size := rfl
  simp [encs] at this
  omega

/-- What a writer's loop carries: F writes what is left. -/
def WRel (s : ByteArray) (F : List Nat → List Nat) (total : List UInt8) (O : ByteArray) (k : Nat) (rest : List Nat) : Prop :=
  s.data.toList.drop k = encs rest ∧ (∀ c ∈ rest, Cp c) ∧ O.data.toList ++ encs (F rest) = total ∧ O.size ≤ 40 * k + 40

theorem wrel_step {s : ByteArray} {F F' : List Nat → List Nat} {total : List UInt8} {O : ByteArray} {k c : Nat} {t : List Nat} (h : WRel s F total O k (c :: t)) {x : List Nat} (hx : F (c :: t) = x ++ F' t) (hl : (encs x).length ≤ 40) {p : ByteArray} (hp : p.data.toList = encs x) :
    WRel s F' total (O ++ p) (k + (enc c).length) t := by
  obtain ⟨h1, h2, h3, h4⟩ := h
  have hn := (enc_len c).1
  refine ⟨next_drop s k c t h1, fun d hd => h2 d (by simp [hd]), ?_, ?_⟩
  · rw [app_list, hp, ← h3, hx, encs_append, List.append_assoc]
  · have : (O ++ p).size = O.size + p.size := by
      show (O ++ p).data.toList.length = _
      rw [app_list, List.length_append]; rfl
    have : p.size = (encs x).length := size_of hp
    omega

theorem nameC_cons (c : Nat) (t : List Nat) : nameC (c :: t) = idChar false false c ++ nameC t := by simp [nameC, idRest]
theorem idChar_ctl {c : Nat} {dig lone : Bool} (h : isCtl c = true ∨ (isDg c = true ∧ dig = true)) : idChar dig lone c = codedC 1 c := by unfold idChar; rw [if_pos h]
theorem idChar_raw {c : Nat} {dig lone : Bool} (h : ¬ (isCtl c = true ∨ (isDg c = true ∧ dig = true))) (h2 : conts c = true ∧ lone = false) : idChar dig lone c = [c] := by unfold idChar; rw [if_neg h, if_pos h2]
theorem idChar_back {c : Nat} {dig lone : Bool} (h : ¬ (isCtl c = true ∨ (isDg c = true ∧ dig = true))) (h2 : ¬ (conts c = true ∧ lone = false)) : idChar dig lone c = [92, c] := by unfold idChar; rw [if_neg h, if_neg h2]
theorem enc92 : enc 92 = [92] := by rw [enc_ascii 92 (by omega)]; rfl
theorem back_list (p : ByteArray) (c : Nat) (hp : p.data.toList = enc c) (b : ByteArray) (hb : b.data.toList = [92]) : (b ++ p).data.toList = encs [92, c] := by
  rw [app_list, hp, hb, encs_cons, encs_one, enc92]
theorem back_size (c : Nat) : (encs [92, c]).length ≤ 40 := by
  rw [encs_cons, encs_one, List.length_append, enc92]
  have := (enc_len c).2
  simp; omega
theorem raw_size (c : Nat) : (encs [c]).length ≤ 40 := by rw [encs_one]; have := (enc_len c).2; omega

set_option maxHeartbeats 2000000 in
set_option maxRecDepth 100000 in
theorem specName (s : ByteArray) (w : World) (hz : s.size ≤ 4294967296) (l : List Nat) (hl : ∀ c ∈ l, Cp c) (hd : s.data.toList = encs l) :
    Calls Tryz.prog 22 #[.string s] w fun e w' => (∃ o : ByteArray, e = .returned (.string o) ∧ o.data.toList = encs (nameC l)) ∧ w = w' := by
  have R := Lib.hid (fun k w c t hc hd => runeAt_cp s k w hz c t hc hd)
  have START := Lib.hid (show WRel s nameC (encs (nameC l)) ⟨#[]⟩ 0 l from ⟨hd, hl, rfl, Nat.zero_le _⟩)
  clear hd hl
  go_enter Tryz.func22, Tryz.ntmps22
  go_wp2
  go_loop [3, 4] (fun o at_ => ∃ (O : ByteArray) (k : Nat) (rest : List Nat), o = .string O ∧ at_ = .int .i64 k ∧ k ≤ s.size ∧ WRel s nameC (encs (nameC l)) O k rest) (fun _ at_ => s.size - (intOf at_).toNat)
  case atStart => exact ⟨_, 0, l, rfl, rfl, Nat.zero_le _, START.out⟩
  case round =>
    obtain ⟨O, k, rest, rfl, rfl, hk, hW⟩ := hrel
    have hO : O.size ≤ 40 * k + 40 := hW.2.2.2
    cases rest with
    | nil =>
      have hks := rest_nil s k hW.1
      have hfin := hW.2.2.1
      rw [show nameC [] = [] from rfl, encs_nil, List.append_nil] at hfin
      have F := Lib.hid hfin
      clear hfin hW
      go_wp2
      go_ret
      exact ⟨⟨_, rfl, F.out⟩, rfl⟩
    | cons c t =>
      have hc := hW.2.1 c (by simp)
      have hcl : 1 ≤ c := hc.1
      have hcu : c ≤ 1114111 := by unfold Cp at hc; omega
      have hkn := next_le s k c t hk hW.1
      have hpl := piece_list s k c t hW.1
      have hn := enc_len c
      have hcs := coded_size c hc
      have cR := R.out k w c t hc hW.1
      have cC := specControl (c : Int) w
      have cS := specContinues (c : Int) w
      have cD := coded c w hcl (by omega)
      rw [ctl_nat] at cC
      rw [sc_nat] at cS
      have hnd := nameC_cons c t
      have hps : (s.extract k (k + (enc c).length)).size ≤ 4 := by rw [size_of hpl]; exact hn.2
      obtain ⟨n, hne⟩ : ∃ n, (enc c).length = n := ⟨_, rfl⟩
      have STEP := Lib.hid (fun x hx hl p hp => wrel_step (F' := nameC) hW (x := x) hx hl (p := p) hp)
      have PL := Lib.hid hpl
      have CS := Lib.hid hcs
      rw [hne] at cR hkn hn STEP PL
      have hkz : (k : Int) + (n : Int) ≤ (s.size : Int) := by omega
      have hkz0 : (k : Int) ≤ (k : Int) + (n : Int) := by omega
      have CR := Lib.hid cR
      have CC := Lib.hid cC
      have CO := Lib.hid cS
      have CD := Lib.hid cD
      clear hcs hpl hW hne cR cC cS cD hps hc
      by_cases h1 : isCtl c = true
      · rw [h1] at CC
        rw [idChar_ctl (.inl h1)] at hnd
        have ND := Lib.hid hnd
        clear h1 hnd
        go_wp2_with (first | (go_at_call 39; refine (CR.out).mono ?_; rintro e w' ⟨rfl, rfl⟩) | (go_at_call 40; refine (CC.out).mono ?_; rintro e w' ⟨rfl, rfl⟩))
        refine (CD.out).mono ?_
        rintro e w' ⟨⟨q, rfl, hq⟩, rfl⟩
        have hqs : q.size ≤ 32 := by rw [size_of hq]; exact CS.out
        have Q := Lib.hid hq
        clear hq
        go_wp2_with fail
        go_round
        case rel => exact ⟨O ++ q, k + n, t, rfl, by go_num, hkn, STEP.out _ ND.out (by have := CS.out; omega) _ Q.out⟩
        case measure => simp [intOf]; omega
      · have h1' : isCtl c = false := by simpa using h1
        rw [h1'] at CC
        have hnc : ¬ (isCtl c = true ∨ (isDg c = true ∧ false = true)) := by rintro (h | ⟨_, h⟩); exact h1 h; exact absurd h (by simp)
        by_cases h2 : conts c = true
        · rw [h2] at CO
          rw [idChar_raw hnc ⟨h2, rfl⟩] at hnd
          have ND := Lib.hid hnd
          clear h1 h1' h2 hnc hnd
          go_wp2_with (first | (go_at_call 39; refine (CR.out).mono ?_; rintro e w' ⟨rfl, rfl⟩) | (go_at_call 40; refine (CC.out).mono ?_; rintro e w' ⟨rfl, rfl⟩) | (go_at_call 43; refine (CO.out).mono ?_; rintro e w' ⟨rfl, rfl⟩))
          go_round
          case rel => exact ⟨_, k + n, t, rfl, by go_num, hkn, STEP.out _ ND.out (raw_size c) _ (by rw [encs_one]; exact PL.out)⟩
          case measure => simp [intOf]; omega
        · have h2' : conts c = false := by simpa using h2
          rw [h2'] at CO
          rw [idChar_back hnc (fun h => h2 h.1)] at hnd
          have ND := Lib.hid hnd
          clear h1 h1' h2 h2' hnc hnd
          go_wp2_with (first | (go_at_call 39; refine (CR.out).mono ?_; rintro e w' ⟨rfl, rfl⟩) | (go_at_call 40; refine (CC.out).mono ?_; rintro e w' ⟨rfl, rfl⟩) | (go_at_call 43; refine (CO.out).mono ?_; rintro e w' ⟨rfl, rfl⟩))
          go_round
          case rel => exact ⟨_, k + n, t, rfl, by go_num, hkn, STEP.out _ ND.out (back_size c) _ (back_list _ c PL.out _ rfl)⟩
          case measure => simp [intOf]; omega
end Go.Proofs.YtmgkccnfhkcncaaGreatDoor
