/-
  FnTokensFollow: the tokens and comments of any text follow one another, none is empty, and together they are all of it but for a comment that does not end. No condition.
-/
import Derived.Test.YtmgkccnfhkcncaaGreatDoorImpG
import Derived.Test.YtmgkccnfhkcncaaGreatDoorMarkG
import Derived.Deep.QuietTactic
import Derived.BigQuiet
import Derived.Deep.DeepCutAuto
import Derived.Deep.CutBlock
namespace Go.Proofs.YtmgkccnfhkcncaaGreatDoor.fnTokensFollow
open Go.RowKit

/-- The loop over tokens and comments. -/
def FR (toks : List Tq) (cs : List (Nat × Nat)) (z F : Nat) (w2 : World) (va vi vk : Value) (w : World) : Prop :=
  ∃ at_ i k n pk : Nat, va = .int .i64 (at_ : Int) ∧ vi = .int .i64 (i : Int) ∧ vk = .int .i64 (k : Int) ∧ i ≤ toks.length ∧ k ≤ cs.length ∧ at_ ≤ z ∧
    Fol z F n pk (toks.drop i) (cs.drop k) at_ ∧ (pk = 38 → ∃ t, 0 < i ∧ toks[i - 1]? = some t ∧ t.kd = 38) ∧ Below w2.heap.size w2 w
theorem below_drewN {B : Nat} {w w' : World} (h : Below B w w') (n : Nat) : Below B w (w'.drewN n) := ⟨h.os, h.tape, h.output, h.size, h.block⟩
theorem row_of {w : World} {base : Nat} {e : TypeId} {size : Nat} {oa : Option Addr} {n c : Nat} {xs : List Value} (h : w.ownsRow base e size (.slice oa n c) n xs) (hn : 0 < n) : ∃ g, oa = some ⟨g, 0, none⟩ ∧ base ≤ g ∧ g < w.heap.size := by
  rcases h.2 with ⟨h1, h2⟩ | ⟨g, cap, cur, h1, h2, h3, -⟩
  · omega
  · injection h1 with h1 _ _
    exact ⟨g, h1, h2, (Array.getElem?_eq_some_iff.1 h3).1⟩
theorem open_of {y : List UInt8} (h : startC y ∧ cmtB (tlB (tlB y)) = none) : ∃ r, y = 47 :: 42 :: r ∧ ∀ i x z, r[i]? = some x → r[i + 1]? = some z → ¬ (x.toNat = 42 ∧ z.toNat = 47) := open_bytes h.1 h.2
theorem noEnd_of {t : ByteArray} {r : List UInt8} (ht : t.data.toList = 47 :: 42 :: r) (h : ∀ i x z, r[i]? = some x → r[i + 1]? = some z → ¬ (x.toNat = 42 ∧ z.toNat = 47)) : NoEnd t := by
  intro i hi h2
  obtain ⟨j, rfl⟩ : ∃ j, i = j + 2 := ⟨i - 2, by omega⟩
  have key : ∀ m (hm : m + 2 < t.size), r[m]? = some t[m + 2] := by
    intro m hm
    have h3 : t.data.toList[m + 2]? = some t[m + 2] := by
      rw [Array.getElem?_toList]
      exact Array.getElem?_eq_getElem _
    rw [ht] at h3
    exact h3
  exact h j _ _ (key j (by omega)) (key (j + 1) (by omega))

set_option maxHeartbeats 8000000 in
set_option maxRecDepth 1000000 in
theorem walk (a0 : ByteArray) (w : World) (w0 : a0.size ≤ maxLen) (hT : Lib.Utf8Tabs 0 1 w) :
    Calls Tryz.prog 4 #[.string a0] w fun e w' => e = .returned (.bool true) ∧ Below w.heap.size w w' := by
  unfold maxLen at w0
  have T := Lib.hid hT
  have WK := Lib.hid (fun w h => wakesG w h)
  by_cases h1 : a0.size ≤ 2147483647
  · by_cases h2 : a0.size ≤ 1048576
    · have MK := Lib.hid (fun w => hasMarkG a0 w (by omega))
      obtain ⟨mk, hmk⟩ : ∃ x, markQ a0.data.toList = x := ⟨_, rfl⟩
      rw [hmk] at MK
      clear hT
      cases mk
      · have hb : hdB a0.data.toList ≠ 65279 := fun h => by rw [markQ_hd h] at hmk; cases hmk
        have TI := Lib.hid (fun w hT => tokensG a0 w hT h2 hb)
        have CI := Lib.hid (fun w hT => commentsG a0 w hT h2 hb)
        clear hmk hb
        go_enter Tryz.func4, Tryz.ntmps4
        go_wp2_with fail
        refine (MK.out _).mono ?_
        rintro e w' ⟨rfl, hww⟩
        first | (obtain rfl : _ = w' := hww) | (obtain rfl : _ = w' := hww.symm)
        go_wp2_with fail
        refine (TI.out _ T.out).mono ?_
        rintro e w1 ⟨toks, cs, tv, rfl, hrun, hown, hb1⟩
        obtain ⟨oa, oc, rfl⟩ := rowForm hown
        have OWN := Lib.hid hown
        have RUN := Lib.hid hrun
        have B1 := Lib.hid hb1
        clear hown hrun hb1
        go_wp2_with fail
        refine (CI.out _ (Utf8Tabs_below T.out B1.out)).mono ?_
        rintro e w2 ⟨toks2, cs2, pv, rfl, hrun2, hcl, hcom, hb2⟩
        obtain rfl : cs = cs2 := run_one _ _ _ _ _ _ RUN.out hrun2
        obtain ⟨ca, cc, rfl⟩ := rowForm hcom
        have COM := Lib.hid hcom
        have OWN2 := Lib.hid (row_own OWN.out (fun k hk => hb2.block k (own_base OWN.out hk).2))
        have B2 := Lib.hid (B1.out.trans (below_le0 hb2 B1.out.size))
        have hlen := run_len _ _ _ _ RUN.out
        rw [show a0.data.toList.length = a0.size by simp] at hlen
        obtain ⟨F, y, n0, hF0, hFA, hFO⟩ := run_fol a0 toks cs a0.data.toList 0 0 ⟨List.drop_zero, Nat.zero_le _⟩ RUN.out
        have FA := Lib.hid hFA
        have FO := Lib.hid hFO
        have START := Lib.hid (show FR toks cs a0.size F w2 (.int .i64 ((0 : Nat) : Int)) (.int .i64 ((0 : Nat) : Int)) (.int .i64 ((0 : Nat) : Int)) w2 from ⟨0, 0, 0, n0, 0, rfl, rfl, rfl, Nat.zero_le _, Nat.zero_le _, Nat.zero_le _, hF0, (fun h => absurd h (by decide)), Below.refl _ _⟩)
        clear hrun2 hcom hb2 hF0 hFA hFO
        go_wp2_with fail
        go_loopw [5, 6, 7] (fun va vi vk wr => FR toks cs a0.size F w2 va vi vk wr) (fun _ vi vk _ => (toks.length - (numOf (some vi)).toNat) + (cs.length - (numOf (some vk)).toNat))
        case atStart => exact START.out
        case round =>
          obtain ⟨at_, i, k, n, pk, rfl, rfl, rfl, hil, hkl, haz, hfol, hpk, hbw⟩ := hrel
          have BW := Lib.hid hbw
          have W2 := Lib.hid (WK.out wr (Utf8Tabs_below T.out (B2.out.trans (below_le0 hbw B2.out.size))))
          have B3 := Lib.hid (B2.out.trans (below_le0 hbw B2.out.size))
          clear hbw
          clear START
          have PK := Lib.hid hpk
          have l2 : cs.length ≤ 1048576 := by omega
          have l1 : toks.length ≤ 1048576 := by omega
          rcases fol_at hfol hil hkl with ⟨ei, ek, ea⟩ | ⟨c, m, hc, hi, q1, q2, q3, q4, hm⟩ | ⟨t, m, ht, hk, q1, q2, q3, hm⟩
          · have g1 : decide ((i : Int) < (toks.length : Int)) = false := decide_eq_false (by omega)
            have g1' : decide (i < toks.length) = false := decide_eq_false (by omega)
            have g2 : decide ((k : Int) < (cs.length : Int)) = false := decide_eq_false (by omega)
            have g2' : decide (k < cs.length) = false := decide_eq_false (by omega)
            subst ea
            clear hfol hpk ei ek
            rcases FO.out with rfl | ho
            · have gE : ((at_ : Int) == (a0.size : Int)) = true := beq_iff_eq.2 (by have := FA.out.size; simp at this; omega)
              have gE' : (at_ == a0.size) = true := beq_iff_eq.2 (by have := FA.out.size; simp at this; omega)
              go_wp2_with fail
              refine (W2.out).mono ?_
              rintro e w3 ⟨rfl, hb3⟩
              have B4 := Lib.hid (B3.out.trans (below_le0 hb3 B3.out.size))
              clear hb3
              go_wp2_with fail
              go_ret
              exact ⟨rfl, B4.out⟩
            · obtain ⟨r, hr, hno⟩ := open_of ho
              have gE : ((at_ : Int) == (a0.size : Int)) = false := beq_eq_false_iff_ne.2 (by have := FA.out.size; rw [hr] at this; simp at this; omega)
              have gE' : (at_ == a0.size) = false := beq_eq_false_iff_ne.2 (by have := FA.out.size; rw [hr] at this; simp at this; omega)
              have UN := Lib.hid (unclosedI (a0.extract at_ a0.size) r wr (FA.out.ext.trans hr) (noEnd_of (FA.out.ext.trans hr) hno) (by rw [ByteArray.size_extract]; omega))
              clear hr hno ho
              go_wp2_with fail
              refine (UN.out).mono ?_
              rintro e w3 ⟨rfl, hw3⟩
              obtain rfl : wr = w3 := hw3
              go_wp2_with fail
              refine (W2.out).mono ?_
              rintro e w3 ⟨rfl, hb3⟩
              have B4 := Lib.hid (B3.out.trans (below_le0 hb3 B3.out.size))
              clear hb3
              go_wp2_with fail
              go_ret
              exact ⟨rfl, B4.out⟩
          · have hkc : k < cs.length := (List.getElem?_eq_some_iff.1 hc).1
            obtain ⟨gc, rfl, hgb, hgl⟩ := row_of COM.out (by omega)
            have C := Lib.hid (fun j u hj => pc_cells COM.out rfl hc j u hj)
            have e0 : wr.cell? ⟨gc, k * 2, none⟩ = some (.int .i64 (c.1 : Int)) := (BW.out.cell (p := ⟨gc, k * 2, none⟩) hgl).trans (C.out 0 _ rfl)
            have e1 : wr.cell? ⟨gc, k * 2 + 1, none⟩ = some (.int .i64 (c.2 : Int)) := (BW.out.cell (p := ⟨gc, k * 2 + 1, none⟩) hgl).trans (C.out 1 _ rfl)
            have g2 : decide ((k : Int) < (cs.length : Int)) = true := decide_eq_true (by omega)
            have g2' : decide (k < cs.length) = true := decide_eq_true (by omega)
            have i0 : (0 : Int) ≤ (k : Int) := by omega
            have i1 : (k : Int) < (cs.length : Int) := by omega
            have i2 : ((k : Int)).toNat = k := by omega
            have f1 : decide ((c.2 : Int) ≤ (c.1 : Int)) = false := decide_eq_false (by omega)
            have f1' : decide (c.2 ≤ c.1) = false := decide_eq_false (by omega)
            have f2 : decide ((a0.size : Int) < (c.2 : Int)) = false := decide_eq_false (by omega)
            have f2' : decide (a0.size < c.2) = false := decide_eq_false (by omega)
            have f3 : decide ((at_ : Int) < (c.1 : Int)) = false := decide_eq_false (by omega)
            have f3' : decide (at_ < c.1) = false := decide_eq_false (by omega)
            have wk : IntKind.i64.wrap ((k : Int) + 1) = (k : Int) + 1 := IntWalk.i64_in _ (by omega)
            have NEXT := Lib.hid (fun (wq : World) (hB : Below w2.heap.size w2 wq) (x : Value) (hx : x = .int .i64 ((max at_ c.2 : Nat) : Int)) => show FR toks cs a0.size F w2 x (.int .i64 (i : Int)) (.int .i64 ((k : Int) + 1)) wq from ⟨max at_ c.2, i, k + 1, m, pk, hx, rfl, rfl, hil, by omega, by omega, hm, PK.out, hB⟩)
            have MX := Lib.hid (show max (at_ : Int) (c.2 : Int) = ((max at_ c.2 : Nat) : Int) by omega)
            have Q4 := Lib.hid q4
            have HI := Lib.hid hi
            have Q12 := Lib.hid (And.intro q1 q2)
            clear hfol hpk hc hi q1 q2 q3 q4 hm
            by_cases ei : i = toks.length
            · have g1 : decide ((i : Int) < (toks.length : Int)) = false := decide_eq_false (by omega)
              have g1' : decide (i < toks.length) = false := decide_eq_false (by omega)
              have g3 : ((i : Int) == (toks.length : Int)) = true := beq_iff_eq.2 (by omega)
              have g3' : (i == toks.length) = true := beq_iff_eq.2 (by omega)
              have EI := Lib.hid ei
              clear ei
              by_cases hat : c.1 = at_
              · have f4 : decide ((c.1 : Int) < (at_ : Int)) = false := decide_eq_false (by omega)
                have f4' : decide (c.1 < at_) = false := decide_eq_false (by omega)
                clear hat
                go_upto_region 8 with fail
                go_quiet (fail)
                go_upto_region 9 with fail
                go_quiet (fail)
                go_wp2_with fail
                go_roundw
                case rel => exact NEXT.out _ (below_drewN BW.out _) (.int .i64 (max (at_ : Int) (c.2 : Int))) (by rw [MX.out])
                case measure =>
                  show _ + (cs.length - ((k : Int) + 1).toNat) < _ + (cs.length - (k : Int).toNat)
                  omega
              · obtain ⟨q5, q6⟩ := Q4.out.resolve_left hat
                obtain ⟨tp, hp0, htp, htk⟩ := PK.out q6
                obtain ⟨go, rfl, hob, hol⟩ := row_of OWN2.out (by have := (List.getElem?_eq_some_iff.1 htp).1; omega)
                have TP := Lib.hid (fun j u hj => ti_cells OWN2.out rfl htp j u hj)
                have d0 : wr.cell? ⟨go, (i - 1) * 6, none⟩ = some (.int .i64 38) := (BW.out.cell (p := ⟨go, (i - 1) * 6, none⟩) hol).trans (TP.out 0 _ (by unfold tiC; rw [htk]; rfl))
                have f4 : decide ((c.1 : Int) < (at_ : Int)) = true := decide_eq_true (by have := Q12.out.1; omega)
                have f4' : decide (c.1 < at_) = true := decide_eq_true (by have := Q12.out.1; omega)
                have f5 : decide ((at_ : Int) < (c.2 : Int)) = false := decide_eq_false (by omega)
                have f5' : decide (at_ < c.2) = false := decide_eq_false (by omega)
                have f6 : ((i : Int) == 0) = false := beq_eq_false_iff_ne.2 (by omega)
                have f6' : (i == 0) = false := beq_eq_false_iff_ne.2 (by omega)
                have wi : IntKind.i64.wrap ((i : Int) - 1) = (i : Int) - 1 := IntWalk.i64_in _ (by omega)
                have j0 : (0 : Int) ≤ (i : Int) - 1 := by omega
                have j1 : (i : Int) - 1 < (toks.length : Int) := by have := (List.getElem?_eq_some_iff.1 htp).1; omega
                have j2 : ((i : Int) - 1).toNat = i - 1 := by omega
                clear hat htp htk
                go_upto_region 8 with fail
                go_quiet (fail)
                go_upto_region 9 with fail
                go_quiet (fail)
                go_wp2_with fail
                go_roundw
                case rel => exact NEXT.out _ (below_drewN BW.out _) (.int .i64 (max (at_ : Int) (c.2 : Int))) (by rw [MX.out])
                case measure =>
                  show _ + (cs.length - ((k : Int) + 1).toNat) < _ + (cs.length - (k : Int).toNat)
                  omega
            · obtain ⟨t, ht, hct⟩ : ∃ t, toks[i]? = some t ∧ c.1 < t.b := HI.out.resolve_left ei
              have hit : i < toks.length := (List.getElem?_eq_some_iff.1 ht).1
              obtain ⟨go, rfl, hob, hol⟩ := row_of OWN2.out (by omega)
              have TC := Lib.hid (fun j u hj => ti_cells OWN2.out rfl ht j u hj)
              have d1 : wr.cell? ⟨go, i * 6 + 1, none⟩ = some (.int .i64 (t.b : Int)) := (BW.out.cell (p := ⟨go, i * 6 + 1, none⟩) hol).trans (TC.out 1 _ rfl)
              have g1 : decide ((i : Int) < (toks.length : Int)) = true := decide_eq_true (by omega)
              have g1' : decide (i < toks.length) = true := decide_eq_true (by omega)
              have g3 : ((i : Int) == (toks.length : Int)) = false := beq_eq_false_iff_ne.2 (by omega)
              have g3' : (i == toks.length) = false := beq_eq_false_iff_ne.2 (by omega)
              have g4 : decide ((c.1 : Int) < (t.b : Int)) = true := decide_eq_true (by omega)
              have g4' : decide (c.1 < t.b) = true := decide_eq_true (by omega)
              have i3 : (0 : Int) ≤ (i : Int) := by omega
              have i4 : (i : Int) < (toks.length : Int) := by omega
              have i5 : ((i : Int)).toNat = i := by omega
              have EI := Lib.hid ei
              clear ei ht hct
              by_cases hat : c.1 = at_
              · have f4 : decide ((c.1 : Int) < (at_ : Int)) = false := decide_eq_false (by omega)
                have f4' : decide (c.1 < at_) = false := decide_eq_false (by omega)
                clear hat
                go_upto_region 8 with fail
                go_quiet (fail)
                go_upto_region 9 with fail
                go_quiet (fail)
                go_wp2_with fail
                go_roundw
                case rel => exact NEXT.out _ (below_drewN BW.out _) (.int .i64 (max (at_ : Int) (c.2 : Int))) (by rw [MX.out])
                case measure =>
                  show _ + (cs.length - ((k : Int) + 1).toNat) < _ + (cs.length - (k : Int).toNat)
                  omega
              · obtain ⟨q5, q6⟩ := Q4.out.resolve_left hat
                obtain ⟨tp, hp0, htp, htk⟩ := PK.out q6
                have TP := Lib.hid (fun j u hj => ti_cells OWN2.out rfl htp j u hj)
                have d0 : wr.cell? ⟨go, (i - 1) * 6, none⟩ = some (.int .i64 38) := (BW.out.cell (p := ⟨go, (i - 1) * 6, none⟩) hol).trans (TP.out 0 _ (by unfold tiC; rw [htk]; rfl))
                have f4 : decide ((c.1 : Int) < (at_ : Int)) = true := decide_eq_true (by have := Q12.out.1; omega)
                have f4' : decide (c.1 < at_) = true := decide_eq_true (by have := Q12.out.1; omega)
                have f5 : decide ((at_ : Int) < (c.2 : Int)) = false := decide_eq_false (by omega)
                have f5' : decide (at_ < c.2) = false := decide_eq_false (by omega)
                have f6 : ((i : Int) == 0) = false := beq_eq_false_iff_ne.2 (by omega)
                have f6' : (i == 0) = false := beq_eq_false_iff_ne.2 (by omega)
                have wi : IntKind.i64.wrap ((i : Int) - 1) = (i : Int) - 1 := IntWalk.i64_in _ (by omega)
                have j0 : (0 : Int) ≤ (i : Int) - 1 := by omega
                have j1 : (i : Int) - 1 < (toks.length : Int) := by have := (List.getElem?_eq_some_iff.1 htp).1; omega
                have j2 : ((i : Int) - 1).toNat = i - 1 := by omega
                clear hat htp htk
                go_upto_region 8 with fail
                go_quiet (fail)
                go_upto_region 9 with fail
                go_quiet (fail)
                go_wp2_with fail
                go_roundw
                case rel => exact NEXT.out _ (below_drewN BW.out _) (.int .i64 (max (at_ : Int) (c.2 : Int))) (by rw [MX.out])
                case measure =>
                  show _ + (cs.length - ((k : Int) + 1).toNat) < _ + (cs.length - (k : Int).toNat)
                  omega
          · have hit : i < toks.length := (List.getElem?_eq_some_iff.1 ht).1
            obtain ⟨go, rfl, hob, hol⟩ := row_of OWN2.out (by omega)
            have TC := Lib.hid (fun j u hj => ti_cells OWN2.out rfl ht j u hj)
            have d1 : wr.cell? ⟨go, i * 6 + 1, none⟩ = some (.int .i64 (t.b : Int)) := (BW.out.cell (p := ⟨go, i * 6 + 1, none⟩) hol).trans (TC.out 1 _ rfl)
            have d2 : wr.cell? ⟨go, i * 6 + 2, none⟩ = some (.int .i64 (t.e : Int)) := (BW.out.cell (p := ⟨go, i * 6 + 2, none⟩) hol).trans (TC.out 2 _ rfl)
            have g1 : decide ((i : Int) < (toks.length : Int)) = true := decide_eq_true (by omega)
            have g1' : decide (i < toks.length) = true := decide_eq_true (by omega)
            have g3 : ((i : Int) == (toks.length : Int)) = false := beq_eq_false_iff_ne.2 (by omega)
            have g3' : (i == toks.length) = false := beq_eq_false_iff_ne.2 (by omega)
            have i3 : (0 : Int) ≤ (i : Int) := by omega
            have i4 : (i : Int) < (toks.length : Int) := by omega
            have i5 : ((i : Int)).toNat = i := by omega
            have f1 : ((t.b : Int) != (at_ : Int)) = false := by rw [q1]; simp
            have f1' : (t.b != at_) = false := by rw [q1]; simp
            have f2 : decide ((t.e : Int) ≤ (at_ : Int)) = false := decide_eq_false (by omega)
            have f2' : decide (t.e ≤ at_) = false := decide_eq_false (by omega)
            have f3 : decide ((a0.size : Int) < (t.e : Int)) = false := decide_eq_false (by omega)
            have f3' : decide (a0.size < t.e) = false := decide_eq_false (by omega)
            have wi : IntKind.i64.wrap ((i : Int) + 1) = (i : Int) + 1 := IntWalk.i64_in _ (by omega)
            have NEXT := Lib.hid (fun (wq : World) (hB : Below w2.heap.size w2 wq) => show FR toks cs a0.size F w2 (.int .i64 (t.e : Int)) (.int .i64 ((i : Int) + 1)) (.int .i64 (k : Int)) wq from ⟨t.e, i + 1, k, m, t.kd, rfl, rfl, rfl, by omega, hkl, by omega, hm, fun h => ⟨t, by omega, by rw [Nat.add_sub_cancel]; exact ht, h⟩, hB⟩)
            have HK := Lib.hid hk
            have Q1 := Lib.hid q1
            clear hfol hpk ht hk q1 q2 q3 hm
            by_cases ek : k = cs.length
            · have g2 : decide ((k : Int) < (cs.length : Int)) = false := decide_eq_false (by omega)
              have g2' : decide (k < cs.length) = false := decide_eq_false (by omega)
              clear ek
              go_upto_region 8 with fail
              go_quiet (fail)
              go_wp2_with fail
              go_roundw
              case rel => exact NEXT.out _ (below_drewN BW.out _)
              case measure =>
                show (toks.length - ((i : Int) + 1).toNat) + _ < (toks.length - (i : Int).toNat) + _
                omega
            · obtain ⟨c, hc, hct⟩ : ∃ c, cs[k]? = some c ∧ t.b ≤ c.1 := HK.out.resolve_left ek
              have hkc : k < cs.length := (List.getElem?_eq_some_iff.1 hc).1
              obtain ⟨gc, rfl, hgb, hgl⟩ := row_of COM.out (by omega)
              have C := Lib.hid (fun j u hj => pc_cells COM.out rfl hc j u hj)
              have e0 : wr.cell? ⟨gc, k * 2, none⟩ = some (.int .i64 (c.1 : Int)) := (BW.out.cell (p := ⟨gc, k * 2, none⟩) hgl).trans (C.out 0 _ rfl)
              have g2 : decide ((k : Int) < (cs.length : Int)) = true := decide_eq_true (by omega)
              have g2' : decide (k < cs.length) = true := decide_eq_true (by omega)
              have i0 : (0 : Int) ≤ (k : Int) := by omega
              have i1 : (k : Int) < (cs.length : Int) := by omega
              have i2 : ((k : Int)).toNat = k := by omega
              have g4 : decide ((c.1 : Int) < (t.b : Int)) = false := decide_eq_false (by omega)
              have g4' : decide (c.1 < t.b) = false := decide_eq_false (by omega)
              clear ek hc hct
              go_upto_region 8 with fail
              go_quiet (fail)
              go_wp2_with fail
              go_roundw
              case rel => exact NEXT.out _ (below_drewN BW.out _)
              case measure =>
                show (toks.length - ((i : Int) + 1).toNat) + _ < (toks.length - (i : Int).toNat) + _
                omega
      · clear hmk
        go_enter Tryz.func4, Tryz.ntmps4
        go_wp2_with fail
        refine (MK.out _).mono ?_
        rintro e w' ⟨rfl, hww⟩
        first | (obtain rfl : _ = w' := hww) | (obtain rfl : _ = w' := hww.symm)
        go_wp2_with fail
        refine (WK.out _ T.out).mono ?_
        rintro e w1 ⟨rfl, hb1⟩
        go_wp2_with fail
        go_ret
        exact ⟨rfl, hb1⟩
    · clear hT
      go_enter Tryz.func4, Tryz.ntmps4
      go_wp2_with fail
      refine (WK.out _ T.out).mono ?_
      rintro e w1 ⟨rfl, hb1⟩
      go_wp2_with fail
      go_ret
      exact ⟨rfl, hb1⟩
  · clear hT
    go_enter Tryz.func4, Tryz.ntmps4
    go_wp2_with fail
    go_ret
    exact ⟨rfl, Below.refl _ _⟩
end Go.Proofs.YtmgkccnfhkcncaaGreatDoor.fnTokensFollow
