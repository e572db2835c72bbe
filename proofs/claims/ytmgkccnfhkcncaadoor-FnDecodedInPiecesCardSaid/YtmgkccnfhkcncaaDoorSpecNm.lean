/-
  The reference's lexer: name.
-/
import Derived.Test.YtmgkccnfhkcncaaDoorSpecEsc
namespace Go.Proofs.YtmgkccnfhkcncaaDoor
open Go.RowKit

theorem strOf_append (a b : List Nat) : strOf a ++ strOf b = strOf (a ++ b) := by
  apply eq_strOf
  rw [app_list, strOf_list, strOf_list, encs_append]
theorem strOf_nil : strOf [] = ⟨#[]⟩ := rfl
theorem dropLfC_suf (l : List Nat) : dropLfC l <:+ l := by
  cases l with
  | nil => exact List.suffix_refl _
  | cons c t => rw [dropLfC_cons]; by_cases h : c = 10
                · rw [if_pos h]; exact List.suffix_cons _ _
                · rw [if_neg h]; exact List.suffix_refl _
theorem nlS_suf (l : List Nat) : nlS l <:+ l := by
  cases l with
  | nil => exact List.suffix_refl _
  | cons c t => rw [nlS_cons]; by_cases h : c = 13
                · rw [if_pos h]; exact (dropLfC_suf t).trans (List.suffix_cons _ _)
                · rw [if_neg h]; exact List.suffix_cons _ _
theorem escTail_suf (l : List Nat) : (escTail l).1 <:+ l := by
  cases l with
  | nil => exact List.suffix_refl _
  | cons d u =>
    rw [escTail_cons]
    by_cases h : isNl d = true
    · rw [if_pos h]; exact nlS_suf (d :: u)
    · rw [if_neg h]
      by_cases h2 : isWs d = true
      · rw [if_pos h2]; exact List.suffix_cons _ _
      · rw [if_neg h2]; exact List.suffix_refl _
theorem hexRunC_suf : ∀ (n v : Nat) (l : List Nat), (hexRunC n v l).2 <:+ l
  | 0, _, _ => List.suffix_refl _
  | n + 1, v, [] => by rw [hexRunC_nil]; exact List.suffix_refl _
  | n + 1, v, c :: t => by
    rw [hexRunC_cons]
    cases hexv c with
    | none => exact List.suffix_refl _
    | some x => exact (hexRunC_suf n _ t).trans (List.suffix_cons _ _)
theorem escS_suf (l : List Nat) : (escS l).2.1 <:+ l := by
  cases l with
  | nil => exact List.suffix_refl _
  | cons c t =>
    cases h : hexv c with
    | none => rw [escS_none t h]; exact List.suffix_cons _ _
    | some x => rw [escS_some t h]; exact ((escTail_suf _).trans (hexRunC_suf 5 x t)).trans (List.suffix_cons _ _)
theorem suf_enc {a l : List Nat} (h : a <:+ l) : (encs a).length ≤ (encs l).length := by
  obtain ⟨p, rfl⟩ := h
  rw [encs_append, List.length_append]; omega
/-- The loop of name. -/
def NRel (b : Nat) (s : ByteArray) (l : List Nat) (cv : Value) (o : Bool) (w0 : World) (ov : Value) (w : World) : Prop :=
  ∃ acc r oo, ov = .string (strOf acc) ∧ SR b s r cv oo w ∧ Fr b w0 w ∧ acc ++ (nameS r).1 = (nameS l).1 ∧ (nameS r).2.1 = (nameS l).2.1 ∧ (oo || (nameS r).2.2) = (o || (nameS l).2.2) ∧ acc.length + r.length ≤ l.length
theorem SR.len {b : Nat} {s : ByteArray} {l : List Nat} {cv : Value} {o : Bool} {w : World} (h : SR b s l cv o w) : l.length ≤ 4294967296 := by
  obtain ⟨k, hA, _⟩ := h
  have := hA.size
  have := hA.hz
  have := encs_len_le l
  omega

set_option maxHeartbeats 4000000 in
set_option maxRecDepth 100000 in
theorem nameL (b : Nat) (s : ByteArray) (l : List Nat) (cv : Value) (o : Bool) (w : World) (h : SR b s l cv o w) :
    Calls Tryd.prog 29 #[.pointer (some ⟨b, 0, none⟩)] w fun e w' => e = .returned (.string (strOf (nameS l).1)) ∧ SR b s (nameS l).2.1 cv (o || (nameS l).2.2) w' ∧ Fr b w w' := by
  have P := Lib.hid (fun l o w h => peek0 b s l cv o w h)
  have P1 := Lib.hid (fun l o w h => peek1 b s l cv o w h)
  have K := Lib.hid (fun c t o w h => take_cons b s c t cv o w h)
  have E := Lib.hid (fun l o w h => escapeL b s l cv o w h)
  have START := Lib.hid (show NRel b s l cv o w (.string ⟨#[]⟩) w from ⟨[], l, o, rfl, h, Fr.refl b w, rfl, rfl, rfl, by simp⟩)
  have hll := h.len
  clear h
  go_enter Tryd.func29, Tryd.ntmps29
  go_wp2_with fail
  go_loopw [3] (fun ov wr => NRel b s l cv o w ov wr) (fun _ wr => leftOf b s wr)
  case atStart => exact START.out
  case round =>
    obtain ⟨acc, r, oo, rfl, hr, hf, hn, hrest, hopen, hlen⟩ := hrel
    clear START
    have hsz := strOf_size acc
    have hal : acc.length ≤ 4294967296 := by omega
    have hss : (strOf acc).size ≤ 17179869184 := by omega
    have HN := Lib.hid hn
    have HR := Lib.hid hrest
    have HO := Lib.hid hopen
    have HL := Lib.hid hlen
    clear hsz hn hrest hopen hlen hal
    cases r with
    | nil =>
      have C := Lib.hid (fun w => specContinues (-1) w)
      have X := Lib.hid (fun w => specEscapes (-1) (-1) w)
      go_wp2_with fail
      refine (P.out _ _ _ hr).mono ?_
      rintro e w' ⟨rfl, rfl⟩
      go_wp2_with fail
      refine (C.out _).mono ?_
      rintro e w' ⟨rfl, rfl⟩
      go_wp2_with fail
      refine (P.out _ _ _ hr).mono ?_
      rintro e w' ⟨rfl, rfl⟩
      go_wp2_with fail
      refine (P1.out _ _ _ hr).mono ?_
      rintro e w' ⟨rfl, rfl⟩
      go_wp2_with fail
      refine (X.out _).mono ?_
      rintro e w' ⟨rfl, rfl⟩
      go_wp2_with fail
      go_ret
      exact ⟨by rw [← HN.out, nameS_nil]; simp, by rw [← HR.out, ← HO.out, nameS_nil, Bool.or_false]; exact hr, hf⟩
    | cons c t =>
      have hc := hr.cp c (by simp)
      have C := Lib.hid (fun w => specContinues (c : Int) w)
      have X := Lib.hid (fun w => specEscapes (c : Int) (cpAt t 0) w)
      rw [sc_nat] at C
      rw [escZ_ok] at X
      have Q := Lib.hid (P.out (c :: t) oo _ hr)
      rw [cpAt_zero_cons] at Q
      have Q1 := Lib.hid (P1.out (c :: t) oo _ hr)
      rw [cpAt_succ_cons] at Q1
      cases hcc : conts c with
      | true =>
        rw [hcc] at C
        have NM := Lib.hid (nameS_conts c t hcc)
        have N := Lib.hid (fun w => encodedC c w hc)
        have U := Lib.hid (strOf_append acc [c])
        have hs1 : (strOf [c]).size ≤ 4 := strOf_size [c]
        clear hcc hc
        go_wp2_with fail
        refine (Q.out).mono ?_
        rintro e w' ⟨rfl, rfl⟩
        go_wp2_with fail
        refine (C.out _).mono ?_
        rintro e w' ⟨rfl, rfl⟩
        go_wp2_with fail
        refine (K.out c t oo _ hr).mono ?_
        rintro e w1 ⟨rfl, h1, f1⟩
        go_wp2_with fail
        refine (N.out w1).mono ?_
        rintro e w2 ⟨rfl, hb⟩
        have h2 := h1.below hb
        have f2 := (hf.trans f1).trans (Fr.of hb)
        clear hb h1 f1
        go_wp2_with fail
        go_roundw
        case rel => exact ⟨acc ++ [c], t, oo, by rw [← U.out], h2, f2, by rw [← HN.out, NM.out]; simp, by rw [← HR.out, NM.out], by rw [← HO.out, NM.out], by have := HL.out; simp at this ⊢; omega⟩
        case measure => rw [h2.left, hr.left]; exact encs_lt c t
      | false =>
        rw [hcc] at C
        by_cases he : c = 92 ∧ escOk t = true
        · rw [decide_eq_true he] at X
          obtain ⟨rfl, het⟩ := he
          have ecp := escS_cp t (fun d hd => hr.cp d (by simp [hd]))
          have elen := escS_len t
          have esu := suf_enc (escS_suf t)
          have NM := Lib.hid (nameS_esc t het)
          obtain ⟨v, r2, o2, hes⟩ : ∃ v r2 o2, escS t = (v, r2, o2) := ⟨_, _, _, rfl⟩
          have E1 := Lib.hid (fun w h => E.out t oo w h)
          rw [hes] at NM E1 ecp elen esu
          dsimp only at NM E1 ecp elen esu
          have SU := Lib.hid esu
          have N := Lib.hid (fun w => encodedC v w ecp.1)
          have U := Lib.hid (strOf_append acc [v])
          have hs1 : (strOf [v]).size ≤ 4 := strOf_size [v]
          have EL := Lib.hid elen
          clear hcc hc ecp het hes elen esu
          go_wp2_with fail
          refine (Q.out).mono ?_
          rintro e w' ⟨rfl, rfl⟩
          go_wp2_with fail
          refine (C.out _).mono ?_
          rintro e w' ⟨rfl, rfl⟩
          go_wp2_with fail
          refine (Q.out).mono ?_
          rintro e w' ⟨rfl, rfl⟩
          go_wp2_with fail
          refine (Q1.out).mono ?_
          rintro e w' ⟨rfl, rfl⟩
          go_wp2_with fail
          refine (X.out _).mono ?_
          rintro e w' ⟨rfl, rfl⟩
          go_wp2_with fail
          refine (K.out 92 t oo _ hr).mono ?_
          rintro e w1 ⟨rfl, h1, f1⟩
          go_wp2_with fail
          refine (E1.out w1 h1).mono ?_
          rintro e w2 ⟨rfl, h2, f2⟩
          go_wp2_with fail
          refine (N.out w2).mono ?_
          rintro e w3 ⟨rfl, hb⟩
          have h3 := h2.below hb
          have f3 := ((hf.trans f1).trans f2).trans (Fr.of hb)
          clear hb h1 f1 h2 f2
          go_wp2_with fail
          go_roundw
          case rel => exact ⟨acc ++ [v], r2, oo || o2, by rw [← U.out], h3, f3, by rw [← HN.out, NM.out]; simp, by rw [← HR.out, NM.out], by rw [← HO.out, NM.out, Bool.or_assoc], by have := HL.out; have := EL.out; simp at *; omega⟩
          case measure =>
            rw [h3.left, hr.left]
            exact Nat.lt_of_le_of_lt SU.out (encs_lt 92 t)
        · rw [decide_eq_false he] at X
          have NM := Lib.hid (nameS_stop c t (by rw [hcc]; decide) he)
          clear he hcc hc
          go_wp2_with fail
          refine (Q.out).mono ?_
          rintro e w' ⟨rfl, rfl⟩
          go_wp2_with fail
          refine (C.out _).mono ?_
          rintro e w' ⟨rfl, rfl⟩
          go_wp2_with fail
          refine (Q.out).mono ?_
          rintro e w' ⟨rfl, rfl⟩
          go_wp2_with fail
          refine (Q1.out).mono ?_
          rintro e w' ⟨rfl, rfl⟩
          go_wp2_with fail
          refine (X.out _).mono ?_
          rintro e w' ⟨rfl, rfl⟩
          go_wp2_with fail
          go_ret
          exact ⟨by rw [← HN.out, NM.out]; simp, by rw [← HR.out, ← HO.out, NM.out, Bool.or_false]; exact hr, hf⟩
end Go.Proofs.YtmgkccnfhkcncaaDoor
