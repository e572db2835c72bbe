/-
  The reference's lexer: escape. The reference's lexer: name. The reference's lexer: a sign that is a token by itself; a text in quotes. The reference's lexer: a text in quotes.
-/
import Derived.Test.YtmgkccnfhkcncaaGreatDoorSpA
import Derived.Deep.DeepCutAuto
import Derived.Deep.CutBlock
import Derived.Test.YtmgkccnfhkcncaaGreatDoorMG
namespace Go.Proofs.YtmgkccnfhkcncaaGreatDoor
open Go.RowKit

theorem hexZ_of_none {c : Nat} (h : hexv c = none) : hexZ (c : Int) = -1 := by rw [hex_nat, h]
theorem hexZ_of_some {c x : Nat} (h : hexv c = some x) : hexZ (c : Int) = (x : Int) := by rw [hex_nat, h]
theorem hexZ_minus : hexZ (-1) = -1 := rfl
theorem hexRunC_nil (n v : Nat) : hexRunC n v [] = (v, []) := by cases n <;> rfl
/-- The loop over an escape's digits. -/
def ERel (b : Nat) (s : ByteArray) (V : Nat) (R : List Nat) (cv : Value) (o : Bool) (w0 : World) (vv iv : Value) (w : World) : Prop :=
  ∃ v i r, vv = .int .i64 ((v : Nat) : Int) ∧ iv = .int .i64 ((i : Nat) : Int) ∧ i ≤ 6 ∧ v < 16 ^ i ∧ hexRunC (6 - i) v r = (V, R) ∧ SR b s r cv o w ∧ Fr b w0 w

set_option maxHeartbeats 4000000 in
set_option maxRecDepth 1000000 in
theorem escapeL (b : Nat) (s : ByteArray) (l : List Nat) (cv : Value) (o : Bool) (w : World) (h : SR b s l cv o w) :
    Calls Tryz.prog 68 #[.pointer (some ⟨b, 0, none⟩)] w fun e w' => e = .returned (.int .i64 ((escS l).1 : Nat)) ∧ SR b s (escS l).2.1 cv (o || (escS l).2.2) w' ∧ Fr b w w' := by
  have P := Lib.hid (fun l w h => peek0 b s l cv o w h)
  have K := Lib.hid (fun c t w h => take_cons b s c t cv o w h)
  cases l with
  | nil =>
    rw [escS_nil]
    have X := Lib.hid (fun w => specHex (-1) w (by omega))
    rw [hexZ_minus] at X
    go_enter Tryz.func68, Tryz.ntmps68
    go_wp2_with fail
    refine (P.out _ _ h).mono ?_
    rintro e w' ⟨rfl, rfl⟩
    go_wp2_with (go_at_call 86; refine (X.out _).mono ?_; rintro e w' ⟨rfl, rfl⟩)
    refine (take_nil b s cv o _ h).mono ?_
    rintro e w1 ⟨rfl, h1, f1⟩
    have z3 := h1.fz 3
    have c3 := h1.c3
    go_wp2_with fail
    go_ret
    exact ⟨rfl, by rw [Bool.or_true]; exact h1.open' true, f1.trans (Fr.setCell _ _ _)⟩
  | cons c t =>
    have hc := h.cp c (by simp)
    have P0 := Lib.hid (P.out (c :: t) _ h)
    rw [cpAt_zero_cons] at P0
    have X := Lib.hid (fun w => specHex (c : Int) w (by omega))
    cases hx : hexv c with
    | none =>
      rw [escS_none t hx, Bool.or_false]
      rw [hexZ_of_none hx] at X
      have t1 : ((c : Int) == -1) = false := beq_eq_false_iff_ne.2 (by omega)
      clear hx hc
      go_enter Tryz.func68, Tryz.ntmps68
      go_wp2_with fail
      refine (P0.out).mono ?_
      rintro e w' ⟨rfl, rfl⟩
      go_wp2_with (go_at_call 86; refine (X.out _).mono ?_; rintro e w' ⟨rfl, rfl⟩)
      refine (K.out c t _ h).mono ?_
      rintro e w1 ⟨rfl, h1, f1⟩
      go_wp2_with fail
      go_ret
      exact ⟨rfl, h1, f1⟩
    | some x =>
      rw [escS_some t hx]
      obtain ⟨V, R, hrun⟩ : ∃ V R, hexRunC 5 x t = (V, R) := ⟨_, _, rfl⟩
      rw [hrun]
      dsimp only
      have hxl := hexv_lt hx
      have START := Lib.hid (show ERel b s V R cv o w (.int .i64 0) (.int .i64 0) w from ⟨0, 0, c :: t, rfl, rfl, by omega, by omega, by
        rw [← hrun]; show hexRunC (5 + 1) 0 (c :: t) = _; rw [hexRunC_cons, hx]; show hexRunC 5 (0 * 16 + x) t = _; congr 1; omega, h, Fr.refl b w⟩)
      rw [hexZ_of_some hx] at X
      clear hrun hx hc
      go_enter Tryz.func68, Tryz.ntmps68
      go_wp2_with fail
      refine (P0.out).mono ?_
      rintro e w' ⟨rfl, rfl⟩
      obtain ⟨wB, rfl⟩ : ∃ wB : World, wB = w' := ⟨_, rfl⟩
      go_upto_block 0 with (go_at_call 86; refine (X.out _).mono ?_; rintro e w' ⟨rfl, rfl⟩)
      go_cut [4] (fun v wx => v = .int .i64 (V : Int) ∧ V ≤ 16777215 ∧ SR b s R cv o wx ∧ Fr b wB wx)
      case first =>
        clear P0 h
        go_wp2_with fail
        go_loopw [4, 5] (fun vv iv wr => ERel b s V R cv o wB vv iv wr) (fun _ iv _ => 6 - (intOf iv).toNat)
        case atStart => exact START.out
        case round =>
          obtain ⟨v, i, r, rfl, rfl, hi, hv, hrun, hr, hf⟩ := hrel
          clear START
          by_cases hi6 : i = 6
          · subst hi6
            obtain ⟨rfl, rfl⟩ := Prod.mk.injEq .. ▸ (show (v, r) = (V, R) from hrun)
            clear hrun
            have hv2 : v ≤ 16777215 := by omega
            clear hv
            go_wp2_with fail
            go_meet
            exact ⟨rfl, hv2, hr, hf⟩
          · obtain ⟨q, hq⟩ : ∃ q, 6 - i = q + 1 := ⟨5 - i, by omega⟩
            rw [hq] at hrun
            have hjq : 6 - (i + 1) = q := by omega
            have h5 : (i : Int) < 6 := by omega
            have hp : 16 ^ (i + 1) ≤ 16 ^ 6 := Nat.pow_le_pow_right (by omega) (by omega)
            have hp2 : 16 ^ (i + 1) = 16 ^ i * 16 := Nat.pow_succ ..
            cases r with
            | nil =>
              rw [hexRunC_nil] at hrun
              obtain ⟨rfl, rfl⟩ := Prod.mk.injEq .. ▸ hrun
              have hv2 : v ≤ 16777215 := by omega
              have X1 := Lib.hid (fun w => specHex (-1) w (by omega))
              rw [hexZ_minus] at X1
              clear hrun hq hjq hp hp2 hv
              go_wp2_with fail
              refine (P.out _ _ hr).mono ?_
              rintro e w' ⟨rfl, rfl⟩
              go_wp2_with (go_at_call 86; refine (X1.out _).mono ?_; rintro e w' ⟨rfl, rfl⟩)
              go_meet
              exact ⟨rfl, hv2, hr, hf⟩
            | cons d u =>
              have P1 := Lib.hid (P.out (d :: u) _ hr)
              rw [cpAt_zero_cons] at P1
              have X1 := Lib.hid (fun w => specHex (d : Int) w (by omega))
              rw [hexRunC_cons] at hrun
              cases hx : hexv d with
              | none =>
                rw [hx] at hrun
                rw [hexZ_of_none hx] at X1
                obtain ⟨rfl, rfl⟩ := Prod.mk.injEq .. ▸ hrun
                have hv2 : v ≤ 16777215 := by omega
                clear hrun hq hjq hp hp2 hv hx
                go_wp2_with fail
                refine (P1.out).mono ?_
                rintro e w' ⟨rfl, rfl⟩
                go_wp2_with (go_at_call 86; refine (X1.out _).mono ?_; rintro e w' ⟨rfl, rfl⟩)
                go_meet
                exact ⟨rfl, hv2, hr, hf⟩
              | some y =>
                rw [hx] at hrun
                dsimp only at hrun
                rw [hexZ_of_some hx] at X1
                have hy := hexv_lt hx
                have hv6 : v * 16 + y < 16 ^ (i + 1) := by omega
                have hv2 : v ≤ 1048575 := by omega
                have HV := Lib.hid hv6
                have RUN := Lib.hid hrun
                have JQ := Lib.hid hjq
                clear hrun hq hjq hp hp2 hv hx hv6
                go_wp2_with fail
                refine (P1.out).mono ?_
                rintro e w' ⟨rfl, rfl⟩
                go_wp2_with (go_at_call 86; refine (X1.out _).mono ?_; rintro e w' ⟨rfl, rfl⟩)
                refine (K.out d u _ hr).mono ?_
                rintro e w1 ⟨rfl, h1, f1⟩
                go_wp2_with (go_at_call 86; refine (X1.out _).mono ?_; rintro e w' ⟨rfl, rfl⟩)
                go_roundw
                case rel => exact ⟨v * 16 + y, i + 1, u, by go_num, by go_num, by omega, HV.out, by rw [JQ.out]; exact RUN.out, h1, hf.trans f1⟩
                case measure => simp [intOf]; omega
      case rest =>
        obtain ⟨rfl, hV, hR, hF⟩ := hcut
        obtain ⟨w2, rfl⟩ : ∃ w2 : World, w2 = wc := ⟨_, rfl⟩
        have z3 := hR.fz 3
        have c3 := hR.c3
        obtain ⟨nl, hnl⟩ : ∃ nl, nlB (cpAt R 0) = nl := ⟨_, rfl⟩
        obtain ⟨sp, hsp⟩ : ∃ sp, spB (cpAt R 0) = sp := ⟨_, rfl⟩
        have N := Lib.hid (fun w => specNewline (cpAt R 0) w)
        have SP := Lib.hid (fun w => specSpace (cpAt R 0) w)
        rw [hnl] at N
        rw [hsp] at SP
        have HNL := Lib.hid hnl
        have HSP := Lib.hid hsp
        clear P0 START h hnl hsp X
        go_upto_if 36 with (first | (go_at_call 48; refine (P.out _ _ hR).mono ?_; rintro e w' ⟨rfl, rfl⟩) | (go_at_call 65; refine (N.out _).mono ?_; rintro e w' ⟨rfl, rfl⟩))
        go_cut [4] (fun v wx => v = .int .i64 (V : Int) ∧ SR b s (escTail R).1 cv (o || (escTail R).2) wx ∧ Fr b wB wx)
        case first =>
          cases nl with
          | true =>
            have hfin : escTail R = (nlS R, true) := by
              cases R with
              | nil => exact absurd HNL.out (by decide)
              | cons d u => have := HNL.out; rw [cpAt_zero_cons, nl_nat] at this; rw [escTail_cons, if_pos this]
            have HFIN := Lib.hid hfin
            clear hfin
            go_wp2_with fail
            refine (newlineL b s R cv true _ (hR.open' true)).mono ?_
            rintro e w3 ⟨rfl, h3, f3⟩
            go_wp2_with fail
            go_meet
            exact ⟨rfl, by rw [HFIN.out, Bool.or_true]; exact h3, (hF.trans (Fr.setCell _ _ _)).trans f3⟩
          | false =>
            cases sp with
            | true =>
              obtain ⟨d, u, rfl⟩ : ∃ d u, R = d :: u := by
                cases R with
                | nil => exact absurd HSP.out (by decide)
                | cons d u => exact ⟨d, u, rfl⟩
              have hfin : escTail (d :: u) = (u, false) := by
                have h1 := HNL.out; rw [cpAt_zero_cons, nl_nat] at h1
                have h2 := HSP.out; rw [cpAt_zero_cons, sp_nat] at h2
                rw [escTail_cons, if_neg (by rw [h1]; decide), if_pos h2]
              have HFIN := Lib.hid hfin
              clear hfin
              go_wp2_with (first | (go_at_call 48; refine (P.out _ _ hR).mono ?_; rintro e w' ⟨rfl, rfl⟩) | (go_at_call 45; refine (SP.out _).mono ?_; rintro e w' ⟨rfl, rfl⟩))
              refine (K.out d u _ hR).mono ?_
              rintro e w3 ⟨rfl, h3, f3⟩
              go_wp2_with fail
              go_meet
              exact ⟨rfl, by rw [HFIN.out, Bool.or_false]; exact h3, hF.trans f3⟩
            | false =>
              have hfin : escTail R = (R, false) := by
                cases R with
                | nil => rfl
                | cons d u =>
                  have h1 := HNL.out; rw [cpAt_zero_cons, nl_nat] at h1
                  have h2 := HSP.out; rw [cpAt_zero_cons, sp_nat] at h2
                  rw [escTail_cons, if_neg (by rw [h1]; decide), if_neg (by rw [h2]; decide)]
              have HFIN := Lib.hid hfin
              clear hfin
              go_wp2_with (first | (go_at_call 48; refine (P.out _ _ hR).mono ?_; rintro e w' ⟨rfl, rfl⟩) | (go_at_call 45; refine (SP.out _).mono ?_; rintro e w' ⟨rfl, rfl⟩))
              go_meet
              exact ⟨rfl, by rw [HFIN.out, Bool.or_false]; exact hR, hF⟩
        case rest =>
          obtain ⟨rfl, hR', hF'⟩ := hcut
          have FX := Lib.hid (show fix V = if V = 0 ∨ (55296 ≤ V ∧ V ≤ 57343) ∨ 1114111 < V then 65533 else V from rfl)
          have HR := Lib.hid hR'
          have HF := Lib.hid hF'
          clear hR' hF' hR hF z3 c3 N SP HNL HSP P K
          by_cases v0 : V = 0
          · subst v0
            go_wp2
            go_ret
            exact ⟨rfl, HR.out, HF.out⟩
          · have t0 : ((V : Int) == 0) = false := beq_eq_false_iff_ne.2 (by omega)
            by_cases v1 : 1114111 < V
            · have FV := Lib.hid (show fix V = 65533 by rw [FX.out, if_pos (by omega)])
              have t1 : decide ((1114111 : Int) < (V : Int)) = true := decide_eq_true (by omega)
              go_wp2
              all_goals
                go_ret
                exact ⟨by rw [FV.out]; rfl, HR.out, HF.out⟩
            · by_cases v2 : 55296 ≤ V
              · by_cases v3 : V ≤ 57343
                · have FV := Lib.hid (show fix V = 65533 by rw [FX.out, if_pos (by omega)])
                  go_wp2
                  go_ret
                  exact ⟨by rw [FV.out]; rfl, HR.out, HF.out⟩
                · have FV := Lib.hid (show fix V = V by rw [FX.out, if_neg (by omega)])
                  go_wp2
                  go_ret
                  exact ⟨by rw [FV.out]; rfl, HR.out, HF.out⟩
              · have FV := Lib.hid (show fix V = V by rw [FX.out, if_neg (by omega)])
                go_wp2
                go_ret
                exact ⟨by rw [FV.out]; rfl, HR.out, HF.out⟩
end Go.Proofs.YtmgkccnfhkcncaaGreatDoor

namespace Go.Proofs.YtmgkccnfhkcncaaGreatDoor
open Go.RowKit

theorem strOf_append (a b : List Nat) : strOf a ++ strOf b = strOf (a ++ b) := by
  apply eq_strOf
  rw [app_list, strOf_list, strOf_list, encs_append]
theorem strOf_nil : strOf [] = ⟨#[]⟩ := rfl
theorem dropLfC_suf (l : List Nat) : dropLfC l <:+ l := by
  cases l with
  | nil => exact List.suffix_refl _
  | cons c t => rw [dropLfC_cons]; by_cases h : c = 10
                · rw [if_pos h]; exact List.suffix_cons _ _
                · rw [if_neg h]; exact List.suffix_refl _
theorem nlS_suf (l : List Nat) : nlS l <:+ l := by
  cases l with
  | nil => exact List.suffix_refl _
  | cons c t => rw [nlS_cons]; by_cases h : c = 13
                · rw [if_pos h]; exact (dropLfC_suf t).trans (List.suffix_cons _ _)
                · rw [if_neg h]; exact List.suffix_cons _ _
theorem escTail_suf (l : List Nat) : (escTail l).1 <:+ l := by
  cases l with
  | nil => exact List.suffix_refl _
  | cons d u =>
    rw [escTail_cons]
    by_cases h : isNl d = true
    · rw [if_pos h]; exact nlS_suf (d :: u)
    · rw [if_neg h]
      by_cases h2 : isWs d = true
      · rw [if_pos h2]; exact List.suffix_cons _ _
      · rw [if_neg h2]; exact List.suffix_refl _
theorem hexRunC_suf : ∀ (n v : Nat) (l : List Nat), (hexRunC n v l).2 <:+ l
  | 0, _, _ => List.suffix_refl _
  | n + 1, v, [] => by rw [hexRunC_nil]; exact List.suffix_refl _
  | n + 1, v, c :: t => by
    rw [hexRunC_cons]
    cases hexv c with
    | none => exact List.suffix_refl _
    | some x => exact (hexRunC_suf n _ t).trans (List.suffix_cons _ _)
theorem escS_suf (l : List Nat) : (escS l).2.1 <:+ l := by
  cases l with
  | nil => exact List.suffix_refl _
  | cons c t =>
    cases h : hexv c with
    | none => rw [escS_none t h]; exact List.suffix_cons _ _
    | some x => rw [escS_some t h]; exact ((escTail_suf _).trans (hexRunC_suf 5 x t)).trans (List.suffix_cons _ _)
theorem suf_enc {a l : List Nat} (h : a <:+ l) : (encs a).length ≤ (encs l).length := by
  obtain ⟨p, rfl⟩ := h
  rw [encs_append, List.length_append]; omega
/-- The loop of name. -/
def NRel (b : Nat) (s : ByteArray) (l : List Nat) (cv : Value) (o : Bool) (w0 : World) (ov : Value) (w : World) : Prop :=
  ∃ acc r oo, ov = .string (strOf acc) ∧ SR b s r cv oo w ∧ Fr b w0 w ∧ acc ++ (nameS r).1 = (nameS l).1 ∧ (nameS r).2.1 = (nameS l).2.1 ∧ (oo || (nameS r).2.2) = (o || (nameS l).2.2) ∧ acc.length + r.length ≤ l.length
theorem SR.len {b : Nat} {s : ByteArray} {l : List Nat} {cv : Value} {o : Bool} {w : World} (h : SR b s l cv o w) : l.length ≤ 4294967296 := by
  obtain ⟨k, hA, _⟩ := h
  have := hA.size
  have := hA.hz
  have := encs_len_le l
  omega

set_option maxHeartbeats 4000000 in
set_option maxRecDepth 100000 in
theorem nameL (b : Nat) (s : ByteArray) (l : List Nat) (cv : Value) (o : Bool) (w : World) (h : SR b s l cv o w) :
    Calls Tryz.prog 54 #[.pointer (some ⟨b, 0, none⟩)] w fun e w' => e = .returned (.string (strOf (nameS l).1)) ∧ SR b s (nameS l).2.1 cv (o || (nameS l).2.2) w' ∧ Fr b w w' := by
  have P := Lib.hid (fun l o w h => peek0 b s l cv o w h)
  have P1 := Lib.hid (fun l o w h => peek1 b s l cv o w h)
  have K := Lib.hid (fun c t o w h => take_cons b s c t cv o w h)
  have E := Lib.hid (fun l o w h => escapeL b s l cv o w h)
  have START := Lib.hid (show NRel b s l cv o w (.string ⟨#[]⟩) w from ⟨[], l, o, rfl, h, Fr.refl b w, rfl, rfl, rfl, by simp⟩)
  have hll := h.len
  clear h
  go_enter Tryz.func54, Tryz.ntmps54
  go_wp2_with fail
  go_loopw [3] (fun ov wr => NRel b s l cv o w ov wr) (fun _ wr => leftOf b s wr)
  case atStart => exact START.out
  case round =>
    obtain ⟨acc, r, oo, rfl, hr, hf, hn, hrest, hopen, hlen⟩ := hrel
    clear START
    have hsz := strOf_size acc
    have hal : acc.length ≤ 4294967296 := by omega
    have hss : (strOf acc).size ≤ 17179869184 := by omega
    have HN := Lib.hid hn
    have HR := Lib.hid hrest
    have HO := Lib.hid hopen
    have HL := Lib.hid hlen
    clear hsz hn hrest hopen hlen hal
    cases r with
    | nil =>
      have C := Lib.hid (fun w => specContinues (-1) w)
      have X := Lib.hid (fun w => specEscapes (-1) (-1) w)
      go_wp2_with fail
      refine (P.out _ _ _ hr).mono ?_
      rintro e w' ⟨rfl, rfl⟩
      go_wp2_with fail
      refine (C.out _).mono ?_
      rintro e w' ⟨rfl, rfl⟩
      go_wp2_with fail
      refine (P.out _ _ _ hr).mono ?_
      rintro e w' ⟨rfl, rfl⟩
      go_wp2_with fail
      refine (P1.out _ _ _ hr).mono ?_
      rintro e w' ⟨rfl, rfl⟩
      go_wp2_with fail
      refine (X.out _).mono ?_
      rintro e w' ⟨rfl, rfl⟩
      go_wp2_with fail
      go_ret
      exact ⟨by rw [← HN.out, nameS_nil]; simp, by rw [← HR.out, ← HO.out, nameS_nil, Bool.or_false]; exact hr, hf⟩
    | cons c t =>
      have hc := hr.cp c (by simp)
      have C := Lib.hid (fun w => specContinues (c : Int) w)
      have X := Lib.hid (fun w => specEscapes (c : Int) (cpAt t 0) w)
      rw [sc_nat] at C
      rw [escZ_ok] at X
      have Q := Lib.hid (P.out (c :: t) oo _ hr)
      rw [cpAt_zero_cons] at Q
      have Q1 := Lib.hid (P1.out (c :: t) oo _ hr)
      rw [cpAt_succ_cons] at Q1
      cases hcc : conts c with
      | true =>
        rw [hcc] at C
        have NM := Lib.hid (nameS_conts c t hcc)
        have N := Lib.hid (fun w => encodedC c w hc)
        have U := Lib.hid (strOf_append acc [c])
        have hs1 : (strOf [c]).size ≤ 4 := strOf_size [c]
        clear hcc hc
        go_wp2_with fail
        refine (Q.out).mono ?_
        rintro e w' ⟨rfl, rfl⟩
        go_wp2_with fail
        refine (C.out _).mono ?_
        rintro e w' ⟨rfl, rfl⟩
        go_wp2_with fail
        refine (K.out c t oo _ hr).mono ?_
        rintro e w1 ⟨rfl, h1, f1⟩
        go_wp2_with fail
        refine (N.out w1).mono ?_
        rintro e w2 ⟨rfl, hb⟩
        have h2 := h1.below hb
        have f2 := (hf.trans f1).trans (Fr.of hb)
        clear hb h1 f1
        go_wp2_with fail
        go_roundw
        case rel => exact ⟨acc ++ [c], t, oo, by rw [← U.out], h2, f2, by rw [← HN.out, NM.out]; simp, by rw [← HR.out, NM.out], by rw [← HO.out, NM.out], by have := HL.out; simp at this ⊢; omega⟩
        case measure => rw [h2.left, hr.left]; exact encs_lt c t
      | false =>
        rw [hcc] at C
        by_cases he : c = 92 ∧ escOk t = true
        · rw [decide_eq_true he] at X
          obtain ⟨rfl, het⟩ := he
          have ecp := escS_cp t (fun d hd => hr.cp d (by simp [hd]))
          have elen := escS_len t
          have esu := suf_enc (escS_suf t)
          have NM := Lib.hid (nameS_esc t het)
          obtain ⟨v, r2, o2, hes⟩ : ∃ v r2 o2, escS t = (v, r2, o2) := ⟨_, _, _, rfl⟩
          have E1 := Lib.hid (fun w h => E.out t oo w h)
          rw [hes] at NM E1 ecp elen esu
          dsimp only at NM E1 ecp elen esu
          have SU := Lib.hid esu
          have N := Lib.hid (fun w => encodedC v w ecp.1)
          have U := Lib.hid (strOf_append acc [v])
          have hs1 : (strOf [v]).size ≤ 4 := strOf_size [v]
          have EL := Lib.hid elen
          clear hcc hc ecp het hes elen esu
          go_wp2_with fail
          refine (Q.out).mono ?_
          rintro e w' ⟨rfl, rfl⟩
          go_wp2_with fail
          refine (C.out _).mono ?_
          rintro e w' ⟨rfl, rfl⟩
          go_wp2_with fail
          refine (Q.out).mono ?_
          rintro e w' ⟨rfl, rfl⟩
          go_wp2_with fail
          refine (Q1.out).mono ?_
          rintro e w' ⟨rfl, rfl⟩
          go_wp2_with fail
          refine (X.out _).mono ?_
          rintro e w' ⟨rfl, rfl⟩
          go_wp2_with fail
          refine (K.out 92 t oo _ hr).mono ?_
          rintro e w1 ⟨rfl, h1, f1⟩
          go_wp2_with fail
          refine (E1.out w1 h1).mono ?_
          rintro e w2 ⟨rfl, h2, f2⟩
          go_wp2_with fail
          refine (N.out w2).mono ?_
          rintro e w3 ⟨rfl, hb⟩
          have h3 := h2.below hb
          have f3 := ((hf.trans f1).trans f2).trans (Fr.of hb)
          clear hb h1 f1 h2 f2
          go_wp2_with fail
          go_roundw
          case rel => exact ⟨acc ++ [v], r2, oo || o2, by rw [← U.out], h3, f3, by rw [← HN.out, NM.out]; simp, by rw [← HR.out, NM.out], by rw [← HO.out, NM.out, Bool.or_assoc], by have := HL.out; have := EL.out; simp at *; omega⟩
          case measure =>
            rw [h3.left, hr.left]
            exact Nat.lt_of_le_of_lt SU.out (encs_lt 92 t)
        · rw [decide_eq_false he] at X
          have NM := Lib.hid (nameS_stop c t (by rw [hcc]; decide) he)
          clear he hcc hc
          go_wp2_with fail
          refine (Q.out).mono ?_
          rintro e w' ⟨rfl, rfl⟩
          go_wp2_with fail
          refine (C.out _).mono ?_
          rintro e w' ⟨rfl, rfl⟩
          go_wp2_with fail
          refine (Q.out).mono ?_
          rintro e w' ⟨rfl, rfl⟩
          go_wp2_with fail
          refine (Q1.out).mono ?_
          rintro e w' ⟨rfl, rfl⟩
          go_wp2_with fail
          refine (X.out _).mono ?_
          rintro e w' ⟨rfl, rfl⟩
          go_wp2_with fail
          go_ret
          exact ⟨by rw [← HN.out, NM.out]; simp, by rw [← HR.out, ← HO.out, NM.out, Bool.or_false]; exact hr, hf⟩
end Go.Proofs.YtmgkccnfhkcncaaGreatDoor

namespace Go.Proofs.YtmgkccnfhkcncaaGreatDoor
open Go.RowKit

/-- A token's value; a, e: its place. -/
def tkV (k : Tk) (a e : Nat) : Value := .agg #[.int .i64 (k.kind : Int), .int .i64 (a : Int), .int .i64 (e : Int), .int .i64 (k.unit : Int), .bool k.id, .string (strOf k.text)]
theorem SR.alloc {b : Nat} {s : ByteArray} {l : List Nat} {cv : Value} {o : Bool} {w : World} (h : SR b s l cv o w) (x : Obj) : SR b s l cv o (w.alloc x) := h.below ((Below.refl _ _).alloc (Nat.le_refl _) _)
theorem SR.lt {b : Nat} {s : ByteArray} {l : List Nat} {cv : Value} {o : Bool} {w : World} (h : SR b s l cv o w) : b < w.heap.size := by
  obtain ⟨k, _, hL⟩ := h
  exact hL.lt
theorem SR.far {b : Nat} {s : ByteArray} {l : List Nat} {cv : Value} {o : Bool} {w : World} (h : SR b s l cv o w) {p : Addr} (hp : b ≠ p.block) (v : Value) : SR b s l cv o (w.setCell p v) := by
  obtain ⟨k, hA, hL⟩ := h
  refine ⟨k, hA, ?_⟩
  unfold SL at *
  rw [Below.heap_setCell w p v b hp, hL]

/-- Block R is a token that was made as zero. -/
def ZB (R : Nat) (w : World) : Prop := w.heap[R]? = some (.cells #[.int .i64 0, .int .i64 0, .int .i64 0, .int .i64 0, .bool false, .string ⟨#[]⟩] 47 (0, 0))
theorem ZB.new (w : World) : ZB w.heap.size (w.alloc (.cells #[.int .i64 0, .int .i64 0, .int .i64 0, .int .i64 0, .bool false, .string ⟨#[]⟩] 47)) := heap_alloc_new _ _
theorem ZB.lt {R : Nat} {w : World} (h : ZB R w) : R < w.heap.size := by
  rcases Nat.lt_or_ge R w.heap.size with h' | h'
  · exact h'
  · unfold ZB at h; simp [Array.getElem?_eq_none h'] at h
theorem ZB.fr {b R : Nat} {w w' : World} (h : ZB R w) (f : Fr b w w') (hb : R ≠ b) : ZB R w' := (f.block R h.lt hb).trans h
theorem ZB.c {R : Nat} {w : World} (h : ZB R w) : w.cell? ⟨R, 0, none⟩ = some (.int .i64 0) ∧ w.cell? ⟨R, 1, none⟩ = some (.int .i64 0) ∧ w.cell? ⟨R, 2, none⟩ = some (.int .i64 0) ∧ w.cell? ⟨R, 3, none⟩ = some (.int .i64 0) ∧ w.cell? ⟨R, 4, none⟩ = some (.bool false) ∧ w.cell? ⟨R, 5, none⟩ = some (.string ⟨#[]⟩) := by
  refine ⟨?_, ?_, ?_, ?_, ?_, ?_⟩ <;> (rw [Lib.cell_of_heap h]; rfl)
theorem ZB.z {R : Nat} {w : World} (h : ZB R w) : w.frozen? ⟨R, 0, none⟩ = false ∧ w.frozen? ⟨R, 1, none⟩ = false ∧ w.frozen? ⟨R, 2, none⟩ = false ∧ w.frozen? ⟨R, 3, none⟩ = false ∧ w.frozen? ⟨R, 4, none⟩ = false ∧ w.frozen? ⟨R, 5, none⟩ = false := by
  refine ⟨?_, ?_, ?_, ?_, ?_, ?_⟩ <;> exact Lib.frozen_of_heap h _

/-- The six stores of a token. -/
def put6 (w : World) (R : Nat) (v0 v1 v2 v3 v4 v5 : Value) : World := (((((w.setCell ⟨R, 0, none⟩ v0).setCell ⟨R, 1, none⟩ v1).setCell ⟨R, 2, none⟩ v2).setCell ⟨R, 3, none⟩ v3).setCell ⟨R, 4, none⟩ v4).setCell ⟨R, 5, none⟩ v5
theorem put6_heap {R : Nat} {w : World} (h : ZB R w) (v0 v1 v2 v3 v4 v5 : Value) : (put6 w R v0 v1 v2 v3 v4 v5).heap[R]? = some (.cells #[v0, v1, v2, v3, v4, v5] 47 (0, 0)) := by
  unfold ZB at h
  simp [put6, World.setCell, Array.getElem?_modify, h]
theorem SR.put6 {b : Nat} {s : ByteArray} {l : List Nat} {cv : Value} {o : Bool} {w : World} (h : SR b s l cv o w) {R : Nat} (hR : b ≠ R) (v0 v1 v2 v3 v4 v5 : Value) : SR b s l cv o (put6 w R v0 v1 v2 v3 v4 v5) :=
  (((((h.far (p := ⟨R, 0, none⟩) hR v0).far (p := ⟨R, 1, none⟩) hR v1).far (p := ⟨R, 2, none⟩) hR v2).far (p := ⟨R, 3, none⟩) hR v3).far (p := ⟨R, 4, none⟩) hR v4).far (p := ⟨R, 5, none⟩) hR v5
theorem Fr.put6 {b : Nat} {w w' : World} (h : Fr b w w') {R : Nat} (hR : w.heap.size ≤ R) (v0 v1 v2 v3 v4 v5 : Value) : Fr b w (put6 w' R v0 v1 v2 v3 v4 v5) :=
  (((((h.far (p := ⟨R, 0, none⟩) hR v0).far (p := ⟨R, 1, none⟩) hR v1).far (p := ⟨R, 2, none⟩) hR v2).far (p := ⟨R, 3, none⟩) hR v3).far (p := ⟨R, 4, none⟩) hR v4).far (p := ⟨R, 5, none⟩) hR v5
theorem infoTok : (Tryz.prog.info? 47).map (·.size) = some 6 := by kernel_rfl
/-- The end of a function that hands a token back. -/
theorem tok_end {fn : Func} {post : Ending → World → Prop} {a : Act} {w : World} {R : Nat} {v0 v1 v2 v3 v4 v5 : Value} (hr : fn.results = #[.cell 2 47]) (hp : a.tmps.getD 2 undef = .pointer (some ⟨R, 0, none⟩)) (hd : a.defers = []) (h : ZB R w)
    (hpost : post (.returned (.agg #[v0, v1, v2, v3, v4, v5])) (put6 w R v0 v1 v2 v3 v4 v5)) : bodyPost Tryz.prog fn post .ret a (put6 w R v0 v1 v2 v3 v4 v5) :=
  bodyPost_ret (results_cell_row (P := Tryz.prog) hr a.tmps _ R _ _ _ _ hp (put6_heap h v0 v1 v2 v3 v4 v5) Tryz.underlying47 rfl infoTok) hd hpost
theorem tk_ret {k : Tk} {a e : Nat} {x y z u : Int} {i : Bool} {t : ByteArray} (h0 : x = (k.kind : Int)) (h1 : y = (a : Int)) (h2 : z = (e : Int)) (h3 : u = (k.unit : Int)) (h4 : i = k.id) (h5 : t = strOf k.text) :
    Ending.returned (.agg #[.int .i64 x, .int .i64 y, .int .i64 z, .int .i64 u, .bool i, .string t]) = .returned (tkV k a e) := by
  subst h0; subst h1; subst h2; subst h3; subst h4; subst h5; rfl
theorem beqc (c n : Nat) : (((c : Int) == (n : Int)) = true) ↔ c = n := by rw [beq_iff_eq]; omega
theorem cast_ite {p : Prop} [Decidable p] {a b : Nat} {y x : Int} (h : ((b : Nat) : Int) = x) (ha : ((a : Nat) : Int) = y) : ((if p then a else b : Nat) : Int) = if p then y else x := by
  by_cases hp : p
  · rw [if_pos hp, if_pos hp]; exact ha
  · rw [if_neg hp, if_neg hp]; exact h
theorem signK_b (c : Nat) : ((signK c : Nat) : Int) = if ((c : Int) == 123) = true then 31 else if ((c : Int) == 125) = true then 6 else if ((c : Int) == 91) = true then 32 else if ((c : Int) == 93) = true then 7 else if ((c : Int) == 40) = true then 33 else if ((c : Int) == 41) = true then 8 else if ((c : Int) == 58) = true then 9 else if ((c : Int) == 59) = true then 35 else if ((c : Int) == 44) = true then 10 else if ((c : Int) == 38) = true then 12 else if ((c : Int) == 42) = true then 13 else if ((c : Int) == 124) = true then 14 else if ((c : Int) == 94) = true then 15 else if ((c : Int) == 36) = true then 16 else if ((c : Int) == 46) = true then 17 else if ((c : Int) == 61) = true then 18 else if ((c : Int) == 33) = true then 19 else if ((c : Int) == 62) = true then 20 else if ((c : Int) == 60) = true then 21 else if ((c : Int) == 45) = true then 22 else if ((c : Int) == 43) = true then 23 else if ((c : Int) == 47) = true then 24 else if ((c : Int) == 126) = true then 25 else 11 := by
  have h := beqc c
  have e123 : (((c : Int) == 123) = true) = (c = 123) := propext (h 123)
  have e125 : (((c : Int) == 125) = true) = (c = 125) := propext (h 125)
  have e91 : (((c : Int) == 91) = true) = (c = 91) := propext (h 91)
  have e93 : (((c : Int) == 93) = true) = (c = 93) := propext (h 93)
  have e40 : (((c : Int) == 40) = true) = (c = 40) := propext (h 40)
  have e41 : (((c : Int) == 41) = true) = (c = 41) := propext (h 41)
  have e58 : (((c : Int) == 58) = true) = (c = 58) := propext (h 58)
  have e59 : (((c : Int) == 59) = true) = (c = 59) := propext (h 59)
  have e44 : (((c : Int) == 44) = true) = (c = 44) := propext (h 44)
  have e38 : (((c : Int) == 38) = true) = (c = 38) := propext (h 38)
  have e42 : (((c : Int) == 42) = true) = (c = 42) := propext (h 42)
  have e124 : (((c : Int) == 124) = true) = (c = 124) := propext (h 124)
  have e94 : (((c : Int) == 94) = true) = (c = 94) := propext (h 94)
  have e36 : (((c : Int) == 36) = true) = (c = 36) := propext (h 36)
  have e46 : (((c : Int) == 46) = true) = (c = 46) := propext (h 46)
  have e61 : (((c : Int) == 61) = true) = (c = 61) := propext (h 61)
  have e33 : (((c : Int) == 33) = true) = (c = 33) := propext (h 33)
  have e62 : (((c : Int) == 62) = true) = (c = 62) := propext (h 62)
  have e60 : (((c : Int) == 60) = true) = (c = 60) := propext (h 60)
  have e45 : (((c : Int) == 45) = true) = (c = 45) := propext (h 45)
  have e43 : (((c : Int) == 43) = true) = (c = 43) := propext (h 43)
  have e47 : (((c : Int) == 47) = true) = (c = 47) := propext (h 47)
  have e126 : (((c : Int) == 126) = true) = (c = 126) := propext (h 126)
  simp only [e123, e125, e91, e93, e40, e41, e58, e59, e44, e38, e42, e124, e94, e36, e46, e61, e33, e62, e60, e45, e43, e47, e126, signK]
  clear h e123 e125 e91 e93 e40 e41 e58 e59 e44 e38 e42 e124 e94 e36 e46 e61 e33 e62 e60 e45 e43 e47 e126
  repeat refine cast_ite ?_ rfl
  rfl

set_option maxHeartbeats 4000000 in
set_option maxRecDepth 100000 in
theorem signL (b : Nat) (s : ByteArray) (c : Nat) (t : List Nat) (cv : Value) (o : Bool) (w : World) (h : SR b s (c :: t) cv o w) :
    Calls Tryz.prog 58 #[.pointer (some ⟨b, 0, none⟩)] w fun e w' => e = .returned (tkV ⟨signK c, 0, false, []⟩ 0 0) ∧ SR b s t cv o w' ∧ Fr b w w' := by
  have hlt := h.lt
  have K := Lib.hid (fun w h => take_cons b s c t cv o w h)
  go_enter Tryz.func58, Tryz.ntmps58
  go_wp2_with fail
  refine (K.out _ (h.alloc _)).mono ?_
  rintro e w1 ⟨rfl, h1, f1⟩
  have zb := (ZB.new w).fr f1 (by omega)
  obtain ⟨c0, c1, c2, c3, c4, c5⟩ := zb.c
  obtain ⟨z0, z1, z2, z3, z4, z5⟩ := zb.z
  have ZZ := Lib.hid zb
  have F := Lib.hid f1.made
  clear zb f1
  go_wp2
  all_goals
    refine tok_end (R := w.heap.size) rfl rfl rfl ZZ.out ?_
    refine ⟨tk_ret ?_ rfl rfl rfl rfl rfl, h1.put6 (by omega) _ _ _ _ _ _, F.out.put6 (Nat.le_refl _) _ _ _ _ _ _⟩
    rw [signK_b]
    simp only [*, Bool.false_eq_true, ↓reduceIte]
end Go.Proofs.YtmgkccnfhkcncaaGreatDoor

namespace Go.Proofs.YtmgkccnfhkcncaaGreatDoor
open Go.RowKit

theorem SR.c3' {b : Nat} {s : ByteArray} {l : List Nat} {cv : Value} {o : Bool} {w : World} (h : SR b s l cv o w) : w.cell? ⟨b, 3, none⟩ = some (.bool o) ∧ w.frozen? ⟨b, 3, none⟩ = false := ⟨h.c3, h.fz 3⟩
theorem ZB.open' {R b : Nat} {w : World} (h : ZB R w) (hb : R ≠ b) (i : Nat) (v : Value) : ZB R (w.setCell ⟨b, i, none⟩ v) := h.fr (Fr.setCell w i v) hb
def quotTk (q : Nat) (t : List Nat) : Tk := ⟨if (quotS q t).1 = true then 36 else 2, 0, false, if (quotS q t).1 = true then (quotS q t).2.1 else []⟩
/-- The loop of quoted. -/
def QRel (b : Nat) (s : ByteArray) (q : Nat) (t : List Nat) (cv : Value) (o : Bool) (w0 : World) (ov : Value) (w : World) : Prop :=
  ∃ acc r oo, ov = .string (strOf acc) ∧ SR b s r cv oo w ∧ Fr b w0 w ∧ acc.length + r.length ≤ t.length ∧ ∀ ok x rest op, quotS q r = (ok, x, rest, op) → ∃ op', quotS q t = (ok, acc ++ x, rest, op') ∧ (o || op') = (oo || op)

set_option maxHeartbeats 8000000 in
set_option maxRecDepth 100000 in
theorem quotedL (b : Nat) (s : ByteArray) (q : Nat) (t : List Nat) (cv : Value) (o : Bool) (w : World) (h : SR b s (q :: t) cv o w) (hq : q = 34 ∨ q = 39) :
    Calls Tryz.prog 51 #[.pointer (some ⟨b, 0, none⟩)] w fun e w' => e = .returned (tkV (quotTk q t) 0 0) ∧ SR b s (quotS q t).2.2.1 cv (o || (quotS q t).2.2.2) w' ∧ Fr b w w' := by
  have hlt := h.lt
  have hll := h.len
  have P := Lib.hid (fun l o w h => peek0 b s l cv o w h)
  have P1 := Lib.hid (fun l o w h => peek1 b s l cv o w h)
  have K := Lib.hid (fun c t o w h => take_cons b s c t cv o w h)
  have K0 := Lib.hid (fun o w h => take_nil b s cv o w h)
  have E := Lib.hid (fun l o w h => escapeL b s l cv o w h)
  have NL := Lib.hid (fun l o w h => newlineL b s l cv o w h)
  have HQ := Lib.hid hq
  have q92 : q ≠ 92 := by omega
  clear hq
  simp only [List.length_cons] at hll
  go_enter Tryz.func51, Tryz.ntmps51
  go_wp2_with fail
  refine (K.out q t o _ (h.alloc _)).mono ?_
  rintro e w1 ⟨rfl, h1, f1⟩
  have START := Lib.hid (show QRel b s q t cv o w1 (.string ⟨#[]⟩) w1 from ⟨[], t, o, rfl, h1, Fr.refl b w1, by simp, fun ok x rest op h => ⟨op, h, rfl⟩⟩)
  have Z1 := Lib.hid ((ZB.new w).fr f1 (by omega))
  have F1 := Lib.hid f1.made
  have hR : w.heap.size ≠ b := by omega
  have hR2 := (ZB.lt Z1.out)
  clear h1 f1 h
  go_wp2_with fail
  go_loopw [4] (fun ov wr => QRel b s q t cv o w1 ov wr) (fun _ wr => leftOf b s wr)
  case atStart => exact START.out
  case round =>
    obtain ⟨acc, r, oo, rfl, hr, hf, hlen, hk⟩ := hrel
    clear START
    have hsz := strOf_size acc
    have hss : (strOf acc).size ≤ 17179869184 := by omega
    have HK := Lib.hid hk
    have HL := Lib.hid hlen
    have HF := Lib.hid (F1.out.trans hf)
    have ZR := Lib.hid (Z1.out.fr hf hR)
    clear hsz hk hlen
    cases r with
    | nil =>
      have Q := Lib.hid (P.out [] oo _ hr)
      rw [cpAt_nil] at Q
      have t0 : ((-1 : Int) == (q : Int)) = false := beq_eq_false_iff_ne.2 (by omega)
      have hx := HK.out true [] [] true (quotS_nil q)
      have HX := Lib.hid hx
      clear hx q92
      go_wp2_with fail
      refine (Q.out).mono ?_
      rintro e w' ⟨rfl, hww⟩
      first | (obtain rfl : _ = w' := hww) | (obtain rfl : _ = w' := hww.symm)
      obtain ⟨d3, y3⟩ := hr.c3'
      have zb := ZR.out.open' hR 3 (.bool true)
      obtain ⟨c0, c1, c2, c3, c4, c5⟩ := zb.c
      obtain ⟨z0, z1, z2, z3, z4, z5⟩ := zb.z
      have ZZ := Lib.hid zb
      clear zb
      go_wp2_with fail
      refine tok_end (R := w.heap.size) rfl rfl rfl ZZ.out ?_
      obtain ⟨op', hx, ho⟩ := HX.out
      unfold quotTk
      rw [hx]
      dsimp only
      rw [ho, if_pos rfl, if_pos rfl, List.append_nil, Bool.or_true]
      exact ⟨tk_ret rfl rfl rfl rfl rfl rfl, (hr.open' true).put6 (Ne.symm hR) _ _ _ _ _ _, (HF.out.trans (Fr.setCell _ _ _)).put6 (Nat.le_refl _) _ _ _ _ _ _⟩
    | cons c u =>
      have hc := hr.cp c (by simp)
      have Q := Lib.hid (P.out (c :: u) oo _ hr)
      rw [cpAt_zero_cons] at Q
      have Q1 := Lib.hid (P1.out (c :: u) oo _ hr)
      rw [cpAt_succ_cons] at Q1
      have NW := Lib.hid (fun w => specNewline (c : Int) w)
      rw [nl_nat] at NW
      have tm : ((c : Int) == -1) = false := beq_eq_false_iff_ne.2 (by omega)
      by_cases h1 : c = q
      · subst h1
        have HX := Lib.hid (HK.out true [] u false (quotS_end c u))
        have tq : ((c : Int) == (c : Int)) = true := beq_self_eq_true _
        clear q92
        go_wp2_with fail
        refine (Q.out).mono ?_
        rintro e w' ⟨rfl, hww⟩
        first | (obtain rfl : _ = w' := hww) | (obtain rfl : _ = w' := hww.symm)
        go_wp2_with fail
        refine (K.out c u oo _ hr).mono ?_
        rintro e w2 ⟨rfl, h2, f2⟩
        have zb := ZR.out.fr f2 hR
        obtain ⟨c0, c1, c2, c3, c4, c5⟩ := zb.c
        obtain ⟨z0, z1, z2, z3, z4, z5⟩ := zb.z
        have ZZ := Lib.hid zb
        clear zb
        go_wp2_with fail
        refine tok_end (R := w.heap.size) rfl rfl rfl ZZ.out ?_
        obtain ⟨op', hx, ho⟩ := HX.out
        unfold quotTk
        rw [hx]
        dsimp only
        rw [ho, if_pos rfl, if_pos rfl, List.append_nil, Bool.or_false]
        exact ⟨tk_ret rfl rfl rfl rfl rfl rfl, h2.put6 (Ne.symm hR) _ _ _ _ _ _, (HF.out.trans f2).put6 (Nat.le_refl _) _ _ _ _ _ _⟩
      · have tq : ((c : Int) == (q : Int)) = false := beq_eq_false_iff_ne.2 (by omega)
        cases h2 : isNl c with
        | true =>
          rw [h2] at NW
          have HX := Lib.hid (HK.out false [] (c :: u) false (quotS_nl q c u h1 h2))
          clear q92 h1 h2
          go_wp2_with fail
          refine (Q.out).mono ?_
          rintro e w' ⟨rfl, hww⟩
          first | (obtain rfl : _ = w' := hww) | (obtain rfl : _ = w' := hww.symm)
          go_wp2_with fail
          refine (NW.out _).mono ?_
          rintro e w' ⟨rfl, hww⟩
          first | (obtain rfl : _ = w' := hww) | (obtain rfl : _ = w' := hww.symm)
          have zb := ZR.out
          obtain ⟨c0, c1, c2, c3, c4, c5⟩ := zb.c
          obtain ⟨z0, z1, z2, z3, z4, z5⟩ := zb.z
          have ZZ := Lib.hid zb
          clear zb
          go_wp2_with fail
          refine tok_end (R := w.heap.size) rfl rfl rfl ZZ.out ?_
          obtain ⟨op', hx, ho⟩ := HX.out
          unfold quotTk
          rw [hx]
          dsimp only
          rw [ho, if_neg (by decide), if_neg (by decide), Bool.or_false]
          exact ⟨tk_ret rfl rfl rfl rfl rfl rfl, hr.put6 (Ne.symm hR) _ _ _ _ _ _, HF.out.put6 (Nat.le_refl _) _ _ _ _ _ _⟩
        | false =>
          rw [h2] at NW
          by_cases h3 : c = 92
          · subst h3
            cases u with
            | nil =>
              rw [cpAt_nil] at Q1
              have HX := Lib.hid (fun ok x rest op h => HK.out ok x rest op ((quotS_last q (by omega)).trans ((quotS_nil q).symm.trans h)))
              clear q92 h1 h2
              go_wp2_with fail
              refine (Q.out).mono ?_
              rintro e w' ⟨rfl, hww⟩
              first | (obtain rfl : _ = w' := hww) | (obtain rfl : _ = w' := hww.symm)
              go_wp2_with fail
              refine (NW.out _).mono ?_
              rintro e w' ⟨rfl, hww⟩
              first | (obtain rfl : _ = w' := hww) | (obtain rfl : _ = w' := hww.symm)
              go_wp2_with fail
              refine (Q1.out).mono ?_
              rintro e w' ⟨rfl, hww⟩
              first | (obtain rfl : _ = w' := hww) | (obtain rfl : _ = w' := hww.symm)
              go_wp2_with fail
              refine (K.out 92 [] oo _ hr).mono ?_
              rintro e w2 ⟨rfl, h2, f2⟩
              go_wp2_with fail
              go_roundw
              case rel => exact ⟨acc, [], oo, rfl, h2, hf.trans f2, by have := HL.out; simp at *; omega, HX.out⟩
              case measure => rw [h2.left, hr.left]; exact encs_lt 92 []
            | cons d v =>
              rw [cpAt_zero_cons] at Q1
              have td : ((d : Int) == -1) = false := beq_eq_false_iff_ne.2 (by omega)
              have NW1 := Lib.hid (fun w => specNewline (d : Int) w)
              rw [nl_nat] at NW1
              cases hd : isNl d with
              | true =>
                rw [hd] at NW1
                have hnl := nlS_len (d :: v)
                have hns := suf_enc (nlS_suf (d :: v))
                have HX := Lib.hid (fun ok x rest op h => HK.out ok x rest op ((quotS_cont q d v (by omega) hd).trans h))
                have HNL := Lib.hid hnl
                have HNS := Lib.hid hns
                clear q92 h1 h2 hd hnl hns
                go_wp2_with fail
                refine (Q.out).mono ?_
                rintro e w' ⟨rfl, hww⟩
                first | (obtain rfl : _ = w' := hww) | (obtain rfl : _ = w' := hww.symm)
                go_wp2_with fail
                refine (NW.out _).mono ?_
                rintro e w' ⟨rfl, hww⟩
                first | (obtain rfl : _ = w' := hww) | (obtain rfl : _ = w' := hww.symm)
                go_wp2_with fail
                refine (Q1.out).mono ?_
                rintro e w' ⟨rfl, hww⟩
                first | (obtain rfl : _ = w' := hww) | (obtain rfl : _ = w' := hww.symm)
                go_wp2_with fail
                refine (Q1.out).mono ?_
                rintro e w' ⟨rfl, hww⟩
                first | (obtain rfl : _ = w' := hww) | (obtain rfl : _ = w' := hww.symm)
                go_wp2_with fail
                refine (NW1.out _).mono ?_
                rintro e w' ⟨rfl, hww⟩
                first | (obtain rfl : _ = w' := hww) | (obtain rfl : _ = w' := hww.symm)
                go_wp2_with fail
                refine (K.out 92 (d :: v) oo _ hr).mono ?_
                rintro e w2 ⟨rfl, h2, f2⟩
                go_wp2_with fail
                refine (NL.out (d :: v) oo _ h2).mono ?_
                rintro e w3 ⟨rfl, h3, f3⟩
                go_wp2_with fail
                go_roundw
                case rel => exact ⟨acc, nlS (d :: v), oo, rfl, h3, (hf.trans f2).trans f3, by have := HL.out; have := HNL.out; simp at *; omega, HX.out⟩
                case measure => rw [h3.left, hr.left]; exact Nat.lt_of_le_of_lt HNS.out (encs_lt 92 (d :: v))
              | false =>
                rw [hd] at NW1
                have ecp := escS_cp (d :: v) (fun x hx => hr.cp x (by simp [hx]))
                have elen := escS_len (d :: v)
                have esu := suf_enc (escS_suf (d :: v))
                have QE := quotS_esc q d v (by omega) hd
                obtain ⟨x2, r2, o2, hes⟩ : ∃ x r o, escS (d :: v) = (x, r, o) := ⟨_, _, _, rfl⟩
                have E1 := Lib.hid (fun w h => E.out (d :: v) oo w h)
                rw [hes] at QE E1 ecp elen esu
                dsimp only at QE E1 ecp elen esu
                have HX := Lib.hid (show ∀ ok x rest op, quotS q r2 = (ok, x, rest, op) → ∃ op', quotS q t = (ok, (acc ++ [x2]) ++ x, rest, op') ∧ (o || op') = ((oo || o2) || op) from fun ok x rest op h => by
                  obtain ⟨op', h3, h4⟩ := HK.out ok (x2 :: x) rest (o2 || op) (by rw [QE, h])
                  exact ⟨op', by rw [h3]; simp, by rw [h4, Bool.or_assoc]⟩)
                have N := Lib.hid (fun w => encodedC x2 w ecp.1)
                have U := Lib.hid (strOf_append acc [x2])
                have hs1 : (strOf [x2]).size ≤ 4 := strOf_size [x2]
                have EL := Lib.hid elen
                have SU := Lib.hid esu
                clear q92 h1 h2 hd ecp elen esu QE hes
                go_wp2_with fail
                refine (Q.out).mono ?_
                rintro e w' ⟨rfl, hww⟩
                first | (obtain rfl : _ = w' := hww) | (obtain rfl : _ = w' := hww.symm)
                go_wp2_with fail
                refine (NW.out _).mono ?_
                rintro e w' ⟨rfl, hww⟩
                first | (obtain rfl : _ = w' := hww) | (obtain rfl : _ = w' := hww.symm)
                go_wp2_with fail
                refine (Q1.out).mono ?_
                rintro e w' ⟨rfl, hww⟩
                first | (obtain rfl : _ = w' := hww) | (obtain rfl : _ = w' := hww.symm)
                go_wp2_with fail
                refine (Q1.out).mono ?_
                rintro e w' ⟨rfl, hww⟩
                first | (obtain rfl : _ = w' := hww) | (obtain rfl : _ = w' := hww.symm)
                go_wp2_with fail
                refine (NW1.out _).mono ?_
                rintro e w' ⟨rfl, hww⟩
                first | (obtain rfl : _ = w' := hww) | (obtain rfl : _ = w' := hww.symm)
                go_wp2_with fail
                refine (K.out 92 (d :: v) oo _ hr).mono ?_
                rintro e w2 ⟨rfl, h2, f2⟩
                go_wp2_with fail
                refine (E1.out _ h2).mono ?_
                rintro e w3 ⟨rfl, h3, f3⟩
                go_wp2_with fail
                refine (N.out w3).mono ?_
                rintro e w4 ⟨rfl, hb⟩
                have h4 := h3.below hb
                have f4 := ((hf.trans f2).trans f3).trans (Fr.of hb)
                clear hb h2 f2 h3 f3
                go_wp2_with fail
                go_roundw
                case rel => exact ⟨acc ++ [x2], r2, oo || o2, by rw [← U.out], h4, f4, by have := HL.out; have := EL.out; simp at *; omega, HX.out⟩
                case measure => rw [h4.left, hr.left]; exact Nat.lt_of_le_of_lt SU.out (encs_lt 92 (d :: v))
          · have t92 : ((c : Int) == 92) = false := beq_eq_false_iff_ne.2 (by omega)
            have QE := quotS_plain q c u h1 h2 h3
            have HX := Lib.hid (show ∀ ok x rest op, quotS q u = (ok, x, rest, op) → ∃ op', quotS q t = (ok, (acc ++ [c]) ++ x, rest, op') ∧ (o || op') = (oo || op) from fun ok x rest op h => by
              obtain ⟨op', h3, h4⟩ := HK.out ok (c :: x) rest op (by rw [QE, h])
              exact ⟨op', by rw [h3]; simp, h4⟩)
            have N := Lib.hid (fun w => encodedC c w hc)
            have U := Lib.hid (strOf_append acc [c])
            have hs1 : (strOf [c]).size ≤ 4 := strOf_size [c]
            clear q92 h1 h2 h3 QE hc
            go_wp2_with fail
            refine (Q.out).mono ?_
            rintro e w' ⟨rfl, hww⟩
            first | (obtain rfl : _ = w' := hww) | (obtain rfl : _ = w' := hww.symm)
            go_wp2_with fail
            refine (NW.out _).mono ?_
            rintro e w' ⟨rfl, hww⟩
            first | (obtain rfl : _ = w' := hww) | (obtain rfl : _ = w' := hww.symm)
            go_wp2_with fail
            refine (K.out c u oo _ hr).mono ?_
            rintro e w2 ⟨rfl, h2, f2⟩
            go_wp2_with fail
            refine (N.out w2).mono ?_
            rintro e w4 ⟨rfl, hb⟩
            have h4 := h2.below hb
            have f4 := (hf.trans f2).trans (Fr.of hb)
            clear hb h2 f2
            go_wp2_with fail
            go_roundw
            case rel => exact ⟨acc ++ [c], u, oo, by rw [← U.out], h4, f4, by have := HL.out; simp at *; omega, HX.out⟩
            case measure => rw [h4.left, hr.left]; exact encs_lt c u
end Go.Proofs.YtmgkccnfhkcncaaGreatDoor
