/-
  The reference's lexer: escape.
-/
import Derived.Test.YtmgkccnfhkcncaaDoorSpecName
import Derived.Deep.DeepCutAuto
import Derived.Deep.CutBlock
namespace Go.Proofs.YtmgkccnfhkcncaaDoor
open Go.RowKit

theorem hexZ_of_none {c : Nat} (h : hexv c = none) : hexZ (c : Int) = -1 := by rw [hex_nat, h]
theorem hexZ_of_some {c x : Nat} (h : hexv c = some x) : hexZ (c : Int) = (x : Int) := by rw [hex_nat, h]
theorem hexZ_minus : hexZ (-1) = -1 := rfl
theorem hexRunC_nil (n v : Nat) : hexRunC n v [] = (v, []) := by cases n <;> rfl
/-- The loop over an escape's digits. -/
def ERel (b : Nat) (s : ByteArray) (V : Nat) (R : List Nat) (cv : Value) (o : Bool) (w0 : World) (vv iv : Value) (w : World) : Prop :=
  ∃ v i r, vv = .int .i64 ((v : Nat) : Int) ∧ iv = .int .i64 ((i : Nat) : Int) ∧ i ≤ 6 ∧ v < 16 ^ i ∧ hexRunC (6 - i) v r = (V, R) ∧ SR b s r cv o w ∧ Fr b w0 w

set_option maxHeartbeats 4000000 in
set_option maxRecDepth 1000000 in
theorem escapeL (b : Nat) (s : ByteArray) (l : List Nat) (cv : Value) (o : Bool) (w : World) (h : SR b s l cv o w) :
    Calls Tryd.prog 43 #[.pointer (some ⟨b, 0, none⟩)] w fun e w' => e = .returned (.int .i64 ((escS l).1 : Nat)) ∧ SR b s (escS l).2.1 cv (o || (escS l).2.2) w' ∧ Fr b w w' := by
  have P := Lib.hid (fun l w h => peek0 b s l cv o w h)
  have K := Lib.hid (fun c t w h => take_cons b s c t cv o w h)
  cases l with
  | nil =>
    rw [escS_nil]
    have X := Lib.hid (fun w => specHex (-1) w (by omega))
    rw [hexZ_minus] at X
    go_enter Tryd.func43, Tryd.ntmps43
    go_wp2_with fail
    refine (P.out _ _ h).mono ?_
    rintro e w' ⟨rfl, rfl⟩
    go_wp2_with (go_at_call 51; refine (X.out _).mono ?_; rintro e w' ⟨rfl, rfl⟩)
    refine (take_nil b s cv o _ h).mono ?_
    rintro e w1 ⟨rfl, h1, f1⟩
    have z3 := h1.fz 3
    have c3 := h1.c3
    go_wp2_with fail
    go_ret
    exact ⟨rfl, by rw [Bool.or_true]; exact h1.open' true, f1.trans (Fr.setCell _ _ _)⟩
  | cons c t =>
    have hc := h.cp c (by simp)
    have P0 := Lib.hid (P.out (c :: t) _ h)
    rw [cpAt_zero_cons] at P0
    have X := Lib.hid (fun w => specHex (c : Int) w (by omega))
    cases hx : hexv c with
    | none =>
      rw [escS_none t hx, Bool.or_false]
      rw [hexZ_of_none hx] at X
      have t1 : ((c : Int) == -1) = false := beq_eq_false_iff_ne.2 (by omega)
      clear hx hc
      go_enter Tryd.func43, Tryd.ntmps43
      go_wp2_with fail
      refine (P0.out).mono ?_
      rintro e w' ⟨rfl, rfl⟩
      go_wp2_with (go_at_call 51; refine (X.out _).mono ?_; rintro e w' ⟨rfl, rfl⟩)
      refine (K.out c t _ h).mono ?_
      rintro e w1 ⟨rfl, h1, f1⟩
      go_wp2_with fail
      go_ret
      exact ⟨rfl, h1, f1⟩
    | some x =>
      rw [escS_some t hx]
      obtain ⟨V, R, hrun⟩ : ∃ V R, hexRunC 5 x t = (V, R) := ⟨_, _, rfl⟩
      rw [hrun]
      dsimp only
      have hxl := hexv_lt hx
      have START := Lib.hid (show ERel b s V R cv o w (.int .i64 0) (.int .i64 0) w from ⟨0, 0, c :: t, rfl, rfl, by omega, by omega, by
        rw [← hrun]; show hexRunC (5 + 1) 0 (c :: t) = _; rw [hexRunC_cons, hx]; show hexRunC 5 (0 * 16 + x) t = _; congr 1; omega, h, Fr.refl b w⟩)
      rw [hexZ_of_some hx] at X
      clear hrun hx hc
      go_enter Tryd.func43, Tryd.ntmps43
      go_wp2_with fail
      refine (P0.out).mono ?_
      rintro e w' ⟨rfl, rfl⟩
      obtain ⟨wB, rfl⟩ : ∃ wB : World, wB = w' := ⟨_, rfl⟩
      go_upto_block 0 with (go_at_call 51; refine (X.out _).mono ?_; rintro e w' ⟨rfl, rfl⟩)
      go_cut [4] (fun v wx => v = .int .i64 (V : Int) ∧ V ≤ 16777215 ∧ SR b s R cv o wx ∧ Fr b wB wx)
      case first =>
        clear P0 h
        go_wp2_with fail
        go_loopw [4, 5] (fun vv iv wr => ERel b s V R cv o wB vv iv wr) (fun _ iv _ => 6 - (intOf iv).toNat)
        case atStart => exact START.out
        case round =>
          obtain ⟨v, i, r, rfl, rfl, hi, hv, hrun, hr, hf⟩ := hrel
          clear START
          by_cases hi6 : i = 6
          · subst hi6
            obtain ⟨rfl, rfl⟩ := Prod.mk.injEq .. ▸ (show (v, r) = (V, R) from hrun)
            clear hrun
            have hv2 : v ≤ 16777215 := by omega
            clear hv
            go_wp2_with fail
            go_meet
            exact ⟨rfl, hv2, hr, hf⟩
          · obtain ⟨q, hq⟩ : ∃ q, 6 - i = q + 1 := ⟨5 - i, by omega⟩
            rw [hq] at hrun
            have hjq : 6 - (i + 1) = q := by omega
            have h5 : (i : Int) < 6 := by omega
            have hp : 16 ^ (i + 1) ≤ 16 ^ 6 := Nat.pow_le_pow_right (by omega) (by omega)
            have hp2 : 16 ^ (i + 1) = 16 ^ i * 16 := Nat.pow_succ ..
            cases r with
            | nil =>
              rw [hexRunC_nil] at hrun
              obtain ⟨rfl, rfl⟩ := Prod.mk.injEq .. ▸ hrun
              have hv2 : v ≤ 16777215 := by omega
              have X1 := Lib.hid (fun w => specHex (-1) w (by omega))
              rw [hexZ_minus] at X1
              clear hrun hq hjq hp hp2 hv
              go_wp2_with fail
              refine (P.out _ _ hr).mono ?_
              rintro e w' ⟨rfl, rfl⟩
              go_wp2_with (go_at_call 51; refine (X1.out _).mono ?_; rintro e w' ⟨rfl, rfl⟩)
              go_meet
              exact ⟨rfl, hv2, hr, hf⟩
            | cons d u =>
              have P1 := Lib.hid (P.out (d :: u) _ hr)
              rw [cpAt_zero_cons] at P1
              have X1 := Lib.hid (fun w => specHex (d : Int) w (by omega))
              rw [hexRunC_cons] at hrun
              cases hx : hexv d with
              | none =>
                rw [hx] at hrun
                rw [hexZ_of_none hx] at X1
                obtain ⟨rfl, rfl⟩ := Prod.mk.injEq .. ▸ hrun
                have hv2 : v ≤ 16777215 := by omega
                clear hrun hq hjq hp hp2 hv hx
                go_wp2_with fail
                refine (P1.out).mono ?_
                rintro e w' ⟨rfl, rfl⟩
                go_wp2_with (go_at_call 51; refine (X1.out _).mono ?_; rintro e w' ⟨rfl, rfl⟩)
                go_meet
                exact ⟨rfl, hv2, hr, hf⟩
              | some y =>
                rw [hx] at hrun
                dsimp only at hrun
                rw [hexZ_of_some hx] at X1
                have hy := hexv_lt hx
                have hv6 : v * 16 + y < 16 ^ (i + 1) := by omega
                have hv2 : v ≤ 1048575 := by omega
                have HV := Lib.hid hv6
                have RUN := Lib.hid hrun
                have JQ := Lib.hid hjq
                clear hrun hq hjq hp hp2 hv hx hv6
                go_wp2_with fail
                refine (P1.out).mono ?_
                rintro e w' ⟨rfl, rfl⟩
                go_wp2_with (go_at_call 51; refine (X1.out _).mono ?_; rintro e w' ⟨rfl, rfl⟩)
                refine (K.out d u _ hr).mono ?_
                rintro e w1 ⟨rfl, h1, f1⟩
                go_wp2_with (go_at_call 51; refine (X1.out _).mono ?_; rintro e w' ⟨rfl, rfl⟩)
                go_roundw
                case rel => exact ⟨v * 16 + y, i + 1, u, by go_num, by go_num, by omega, HV.out, by rw [JQ.out]; exact RUN.out, h1, hf.trans f1⟩
                case measure => simp [intOf]; omega
      case rest =>
        obtain ⟨rfl, hV, hR, hF⟩ := hcut
        obtain ⟨w2, rfl⟩ : ∃ w2 : World, w2 = wc := ⟨_, rfl⟩
        have z3 := hR.fz 3
        have c3 := hR.c3
        obtain ⟨nl, hnl⟩ : ∃ nl, nlB (cpAt R 0) = nl := ⟨_, rfl⟩
        obtain ⟨sp, hsp⟩ : ∃ sp, spB (cpAt R 0) = sp := ⟨_, rfl⟩
        have N := Lib.hid (fun w => specNewline (cpAt R 0) w)
        have SP := Lib.hid (fun w => specSpace (cpAt R 0) w)
        rw [hnl] at N
        rw [hsp] at SP
        have HNL := Lib.hid hnl
        have HSP := Lib.hid hsp
        clear P0 START h hnl hsp X
        go_upto_if 36 with (first | (go_at_call 28; refine (P.out _ _ hR).mono ?_; rintro e w' ⟨rfl, rfl⟩) | (go_at_call 50; refine (N.out _).mono ?_; rintro e w' ⟨rfl, rfl⟩))
        go_cut [4] (fun v wx => v = .int .i64 (V : Int) ∧ SR b s (escTail R).1 cv (o || (escTail R).2) wx ∧ Fr b wB wx)
        case first =>
          cases nl with
          | true =>
            have hfin : escTail R = (nlS R, true) := by
              cases R with
              | nil => exact absurd HNL.out (by decide)
              | cons d u => have := HNL.out; rw [cpAt_zero_cons, nl_nat] at this; rw [escTail_cons, if_pos this]
            have HFIN := Lib.hid hfin
            clear hfin
            go_wp2_with fail
            refine (newlineL b s R cv true _ (hR.open' true)).mono ?_
            rintro e w3 ⟨rfl, h3, f3⟩
            go_wp2_with fail
            go_meet
            exact ⟨rfl, by rw [HFIN.out, Bool.or_true]; exact h3, (hF.trans (Fr.setCell _ _ _)).trans f3⟩
          | false =>
            cases sp with
            | true =>
              obtain ⟨d, u, rfl⟩ : ∃ d u, R = d :: u := by
                cases R with
                | nil => exact absurd HSP.out (by decide)
                | cons d u => exact ⟨d, u, rfl⟩
              have hfin : escTail (d :: u) = (u, false) := by
                have h1 := HNL.out; rw [cpAt_zero_cons, nl_nat] at h1
                have h2 := HSP.out; rw [cpAt_zero_cons, sp_nat] at h2
                rw [escTail_cons, if_neg (by rw [h1]; decide), if_pos h2]
              have HFIN := Lib.hid hfin
              clear hfin
              go_wp2_with (first | (go_at_call 28; refine (P.out _ _ hR).mono ?_; rintro e w' ⟨rfl, rfl⟩) | (go_at_call 53; refine (SP.out _).mono ?_; rintro e w' ⟨rfl, rfl⟩))
              refine (K.out d u _ hR).mono ?_
              rintro e w3 ⟨rfl, h3, f3⟩
              go_wp2_with fail
              go_meet
              exact ⟨rfl, by rw [HFIN.out, Bool.or_false]; exact h3, hF.trans f3⟩
            | false =>
              have hfin : escTail R = (R, false) := by
                cases R with
                | nil => rfl
                | cons d u =>
                  have h1 := HNL.out; rw [cpAt_zero_cons, nl_nat] at h1
                  have h2 := HSP.out; rw [cpAt_zero_cons, sp_nat] at h2
                  rw [escTail_cons, if_neg (by rw [h1]; decide), if_neg (by rw [h2]; decide)]
              have HFIN := Lib.hid hfin
              clear hfin
              go_wp2_with (first | (go_at_call 28; refine (P.out _ _ hR).mono ?_; rintro e w' ⟨rfl, rfl⟩) | (go_at_call 53; refine (SP.out _).mono ?_; rintro e w' ⟨rfl, rfl⟩))
              go_meet
              exact ⟨rfl, by rw [HFIN.out, Bool.or_false]; exact hR, hF⟩
        case rest =>
          obtain ⟨rfl, hR', hF'⟩ := hcut
          have FX := Lib.hid (show fix V = if V = 0 ∨ (55296 ≤ V ∧ V ≤ 57343) ∨ 1114111 < V then 65533 else V from rfl)
          have HR := Lib.hid hR'
          have HF := Lib.hid hF'
          clear hR' hF' hR hF z3 c3 N SP HNL HSP P K
          by_cases v0 : V = 0
          · subst v0
            go_wp2
            go_ret
            exact ⟨rfl, HR.out, HF.out⟩
          · have t0 : ((V : Int) == 0) = false := beq_eq_false_iff_ne.2 (by omega)
            by_cases v1 : 1114111 < V
            · have FV := Lib.hid (show fix V = 65533 by rw [FX.out, if_pos (by omega)])
              have t1 : decide ((1114111 : Int) < (V : Int)) = true := decide_eq_true (by omega)
              go_wp2
              all_goals
                go_ret
                exact ⟨by rw [FV.out]; rfl, HR.out, HF.out⟩
            · by_cases v2 : 55296 ≤ V
              · by_cases v3 : V ≤ 57343
                · have FV := Lib.hid (show fix V = 65533 by rw [FX.out, if_pos (by omega)])
                  go_wp2
                  go_ret
                  exact ⟨by rw [FV.out]; rfl, HR.out, HF.out⟩
                · have FV := Lib.hid (show fix V = V by rw [FX.out, if_neg (by omega)])
                  go_wp2
                  go_ret
                  exact ⟨by rw [FV.out]; rfl, HR.out, HF.out⟩
              · have FV := Lib.hid (show fix V = V by rw [FX.out, if_neg (by omega)])
                go_wp2
                go_ret
                exact ⟨by rw [FV.out]; rfl, HR.out, HF.out⟩
end Go.Proofs.YtmgkccnfhkcncaaDoor
