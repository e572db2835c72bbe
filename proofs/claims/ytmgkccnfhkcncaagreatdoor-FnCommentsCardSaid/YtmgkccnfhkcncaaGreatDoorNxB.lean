/-
  css_lexer's lexer: next in general, class by class (the end of the text, numbers by their digits, names, what begins nothing). Printed by wip/gen_nxg.py.
-/
import Derived.Test.YtmgkccnfhkcncaaGreatDoorNxFW
import Derived.Test.YtmgkccnfhkcncaaGreatDoorIdlH
import Derived.Test.YtmgkccnfhkcncaaGreatDoorNmcI
namespace Go.Proofs.YtmgkccnfhkcncaaGreatDoor
open Go.RowKit
attribute [local go_sem ↓] Go.wp_at_zero Go.wp_at_succ

set_option maxHeartbeats 16000000 in
set_option maxRecDepth 1000000 in
theorem nxEof {b : Nat} {G : LogI} {s : ByteArray} {r : List UInt8} (g : hdB r = -1) : NxW b G s r := by
  intro P st0 k uo0 kd0 fl0 cs S f QN Q0 w h hX hA HR HC
  have ST := Lib.hid (fun P r st uo kd fl w (h : LR b P s r st uo kd fl w) => stepL b P s r st uo kd fl w h)
  have H0 := Lib.hid h
  have HA := Lib.hid hA
  have HX := Lib.hid hX
  have FIN := Lib.hid (show ∀ (kd uo fl : Nat) (R' : List UInt8) (T' : Array Value) (w' : World), nextB r = ([], r, kd, R') → uo ≤ 65535 → fl ≤ 2 → LxP b G s R' k (uo : Int) (kd : Int) (fl : Int) cs S w w' → Q0 .ret ⟨T', []⟩ w' from fun kd uo fl R' a' w' e1 e2 e3 e4 => HR _ _ (nxg_tok hA e1 e2 e3 e4))
  have QQ := Lib.hid (show ∀ (R' : List UInt8) (uo kd fl : Int) (w' : World), LR b P s R' k uo kd fl w' → Fr b w w' → LxP b G s R' k uo kd fl cs S w w' from fun R' uo kd fl w' hL f => LxP.quiet hX hL f (by
    obtain ⟨k', hA', hst', -⟩ := hL.reads
    have := hA'.size
    omega))
  clear h hX hA HR HC
  have NB := Lib.hid (show nextB r = ([], r, 0, r) by rw [hdB_end g]; exact nextB_nil)
  have hL := H0.out
  obtain ⟨k', hA', hst, hk, hss, -, -, c35, c36, c37⟩ := hL.reads
  obtain rfl := HA.out.unique hA'
  have hkz := HA.out.le
  have E := Lib.hid (fun w => rangeEndI st0 k w hst (by omega))
  have c38 := hL.c38'
  obtain ⟨c39, c40⟩ := hL.c3940
  have hlt := hL.lt
  have z36 := hL.fz 36
  have z37 := hL.fz 37
  have z38 := hL.fz 38
  have z39 := hL.fz 39
  have z40 := hL.fz 40
  clear hL hA' hst hk
  conv => arg 2; whnf
  unfold nxF
  go_wp2_with fail
  refine (E.out _).mono ?_
  rintro e w1 ⟨rfl, hb1⟩
  have d35 := (hb1.cell (p := ⟨b, 35, none⟩) hlt).trans c35
  have d36 := (hb1.cell (p := ⟨b, 36, none⟩) hlt).trans c36
  have d37 := (hb1.cell (p := ⟨b, 37, none⟩) hlt).trans c37
  have d38 := (hb1.cell (p := ⟨b, 38, none⟩) hlt).trans c38
  have d39 := (hb1.cell (p := ⟨b, 39, none⟩) hlt).trans c39
  have d40 := (hb1.cell (p := ⟨b, 40, none⟩) hlt).trans c40
  have y36 := (hb1.frozen (p := ⟨b, 36, none⟩) hlt).trans z36
  have y37 := (hb1.frozen (p := ⟨b, 37, none⟩) hlt).trans z37
  have y38 := (hb1.frozen (p := ⟨b, 38, none⟩) hlt).trans z38
  have y39 := (hb1.frozen (p := ⟨b, 39, none⟩) hlt).trans z39
  have y40 := (hb1.frozen (p := ⟨b, 40, none⟩) hlt).trans z40
  have H1 := Lib.hid (H0.out.fr hb1)
  have F1 := Lib.hid (Fr.of (b := b) hb1)
  clear hb1 c35 c36 c37 c38 c39 c40 z36 z37 z38 z39 z40 H0 E
  go_upto_region 1 with fail
  obtain ⟨w2, hw2⟩ : ∃ x, (((((w1.setCell ⟨b, 36, none⟩ (.int .i32 (k : Int))).setCell ⟨b, 37, none⟩ (.int .i32 0)).setCell ⟨b, 38, none⟩ (.int .u16 0)).setCell ⟨b, 39, none⟩ (.int .u8 0)).setCell ⟨b, 40, none⟩ (.int .u8 0)) = x := ⟨_, rfl⟩
  rw [hw2]
  have hL2 : LR b P s r k 0 0 0 w2 := by rw [← hw2]; exact H1.out.begin HA.out
  have F2 := Lib.hid (show Fr b w w2 by rw [← hw2]; exact F1.out.trans (((((Fr.setCell w1 36 _).trans (Fr.setCell _ 37 _)).trans (Fr.setCell _ 38 _)).trans (Fr.setCell _ 39 _)).trans (Fr.setCell _ 40 _)))
  clear hw2 d35 d36 d37 d38 d39 d40 y36 y37 y38 y39 y40 H1 F1
  obtain ⟨k', hA', hst', hk', hss', -, -, c35, c36, c37⟩ := hL2.reads
  clear hA' hk' hss' hst' c36 c37
  have hlt2 := hL2.lt
  obtain ⟨c39, c40⟩ := hL2.c3940
  have z39 := hL2.fz 39
  have z40 := hL2.fz 40
  have H2 := Lib.hid hL2
  have X2 := Lib.hid (HX.out.fr (k' := k) F2.out (Nat.le_refl _))
  have S2 := Lib.hid (ST.out _ _ _ _ _ _ _ hL2)
  clear hL2
  rw [g] at c35
  clear g
  go_wp2_with fail
  exact FIN.out 0 0 0 _ _ _ NB.out (by decide) (by decide) (QQ.out _ _ _ _ _ (H2.out.set39 0) (F2.out.trans (Fr.setCell _ 39 _)))

set_option maxHeartbeats 16000000 in
set_option maxRecDepth 1000000 in
theorem nxDig {b : Nat} {G : LogI} {s : ByteArray} {r : List UInt8} (g : dgB (hdB r) = true) : NxW b G s r := by
  intro P st0 k uo0 kd0 fl0 cs S f QN Q0 w h hX hA HR HC
  have ST := Lib.hid (fun P r st uo kd fl w (h : LR b P s r st uo kd fl w) => stepL b P s r st uo kd fl w h)
  have H0 := Lib.hid h
  have HA := Lib.hid hA
  have HX := Lib.hid hX
  have FIN := Lib.hid (show ∀ (kd uo fl : Nat) (R' : List UInt8) (T' : Array Value) (w' : World), nextB r = ([], r, kd, R') → uo ≤ 65535 → fl ≤ 2 → LxP b G s R' k (uo : Int) (kd : Int) (fl : Int) cs S w w' → Q0 .ret ⟨T', []⟩ w' from fun kd uo fl R' a' w' e1 e2 e3 e4 => HR _ _ (nxg_tok hA e1 e2 e3 e4))
  have QQ := Lib.hid (show ∀ (R' : List UInt8) (uo kd fl : Int) (w' : World), LR b P s R' k uo kd fl w' → Fr b w w' → LxP b G s R' k uo kd fl cs S w w' from fun R' uo kd fl w' hL f => LxP.quiet hX hL f (by
    obtain ⟨k', hA', hst', -⟩ := hL.reads
    have := hA'.size
    omega))
  clear h hX hA HR HC
  have g6 : 48 ≤ hdB r ∧ hdB r ≤ 57 := of_decide_eq_true g
  have hcn : cntB r = true := by unfold cntB; rw [if_pos g]
  obtain ⟨c, hc⟩ : ∃ c : Nat, hdB r = (c : Int) := ⟨(hdB r).toNat, by omega⟩
  have NB := Lib.hid (next_tok hc (by omega) (fun e => by omega) (tokB_num hcn))
  clear g hcn hc c
  have hL := H0.out
  obtain ⟨k', hA', hst, hk, hss, -, -, c35, c36, c37⟩ := hL.reads
  obtain rfl := HA.out.unique hA'
  have hkz := HA.out.le
  have E := Lib.hid (fun w => rangeEndI st0 k w hst (by omega))
  have c38 := hL.c38'
  obtain ⟨c39, c40⟩ := hL.c3940
  have hlt := hL.lt
  have z36 := hL.fz 36
  have z37 := hL.fz 37
  have z38 := hL.fz 38
  have z39 := hL.fz 39
  have z40 := hL.fz 40
  clear hL hA' hst hk
  conv => arg 2; whnf
  unfold nxF
  go_wp2_with fail
  refine (E.out _).mono ?_
  rintro e w1 ⟨rfl, hb1⟩
  have d35 := (hb1.cell (p := ⟨b, 35, none⟩) hlt).trans c35
  have d36 := (hb1.cell (p := ⟨b, 36, none⟩) hlt).trans c36
  have d37 := (hb1.cell (p := ⟨b, 37, none⟩) hlt).trans c37
  have d38 := (hb1.cell (p := ⟨b, 38, none⟩) hlt).trans c38
  have d39 := (hb1.cell (p := ⟨b, 39, none⟩) hlt).trans c39
  have d40 := (hb1.cell (p := ⟨b, 40, none⟩) hlt).trans c40
  have y36 := (hb1.frozen (p := ⟨b, 36, none⟩) hlt).trans z36
  have y37 := (hb1.frozen (p := ⟨b, 37, none⟩) hlt).trans z37
  have y38 := (hb1.frozen (p := ⟨b, 38, none⟩) hlt).trans z38
  have y39 := (hb1.frozen (p := ⟨b, 39, none⟩) hlt).trans z39
  have y40 := (hb1.frozen (p := ⟨b, 40, none⟩) hlt).trans z40
  have H1 := Lib.hid (H0.out.fr hb1)
  have F1 := Lib.hid (Fr.of (b := b) hb1)
  clear hb1 c35 c36 c37 c38 c39 c40 z36 z37 z38 z39 z40 H0 E
  go_upto_region 1 with fail
  obtain ⟨w2, hw2⟩ : ∃ x, (((((w1.setCell ⟨b, 36, none⟩ (.int .i32 (k : Int))).setCell ⟨b, 37, none⟩ (.int .i32 0)).setCell ⟨b, 38, none⟩ (.int .u16 0)).setCell ⟨b, 39, none⟩ (.int .u8 0)).setCell ⟨b, 40, none⟩ (.int .u8 0)) = x := ⟨_, rfl⟩
  rw [hw2]
  have hL2 : LR b P s r k 0 0 0 w2 := by rw [← hw2]; exact H1.out.begin HA.out
  have F2 := Lib.hid (show Fr b w w2 by rw [← hw2]; exact F1.out.trans (((((Fr.setCell w1 36 _).trans (Fr.setCell _ 37 _)).trans (Fr.setCell _ 38 _)).trans (Fr.setCell _ 39 _)).trans (Fr.setCell _ 40 _)))
  clear hw2 d35 d36 d37 d38 d39 d40 y36 y37 y38 y39 y40 H1 F1
  obtain ⟨k', hA', hst', hk', hss', -, -, c35, c36, c37⟩ := hL2.reads
  clear hA' hk' hss' hst' c36 c37
  have hlt2 := hL2.lt
  obtain ⟨c39, c40⟩ := hL2.c3940
  have z39 := hL2.fz 39
  have z40 := hL2.fz 40
  have H2 := Lib.hid hL2
  have X2 := Lib.hid (HX.out.fr (k' := k) F2.out (Nat.le_refl _))
  have S2 := Lib.hid (ST.out _ _ _ _ _ _ _ hL2)
  clear hL2
  have C := Lib.hid (numericI b P s r k 0 0 0 w2 H2.out HA.out)
  obtain ⟨cq, hcq⟩ : ∃ cq, hdB r = cq := ⟨_, rfl⟩
  rw [hcq] at c35 g6
  have g7 : cq = 48 ∨ cq = 49 ∨ cq = 50 ∨ cq = 51 ∨ cq = 52 ∨ cq = 53 ∨ cq = 54 ∨ cq = 55 ∨ cq = 56 ∨ cq = 57 := by omega
  clear g6 hcq
  rcases g7 with rfl | rfl | rfl | rfl | rfl | rfl | rfl | rfl | rfl | rfl
  all_goals
    as_aux_lemma =>
      go_wp2_with fail
      refine (C.out).mono ?_
      rintro e w3 ⟨rfl, h3, f3⟩
      have d39 := h3.c3940.1
      have y39 := h3.fz 39
      have H3 := Lib.hid h3
      have F3 := Lib.hid (F2.out.trans f3)
      clear h3 f3
      go_wp2_with fail
      exact nx_numF NB.out (FIN.out _) (QQ.out _ _ _ _ _ (H3.out.set39 _) (F3.out.trans (Fr.setCell _ 39 _)))

set_option maxHeartbeats 16000000 in
set_option maxRecDepth 1000000 in
theorem nxNam {b : Nat} {G : LogI} {s : ByteArray} {r : List UInt8} (g : nsB (hdB r) = true) : NxW b G s r := by
  intro P st0 k uo0 kd0 fl0 cs S f QN Q0 w h hX hA HR HC
  have ST := Lib.hid (fun P r st uo kd fl w (h : LR b P s r st uo kd fl w) => stepL b P s r st uo kd fl w h)
  have H0 := Lib.hid h
  have HA := Lib.hid hA
  have HX := Lib.hid hX
  have FIN := Lib.hid (show ∀ (kd uo fl : Nat) (R' : List UInt8) (T' : Array Value) (w' : World), nextB r = ([], r, kd, R') → uo ≤ 65535 → fl ≤ 2 → LxP b G s R' k (uo : Int) (kd : Int) (fl : Int) cs S w w' → Q0 .ret ⟨T', []⟩ w' from fun kd uo fl R' a' w' e1 e2 e3 e4 => HR _ _ (nxg_tok hA e1 e2 e3 e4))
  have QQ := Lib.hid (show ∀ (R' : List UInt8) (uo kd fl : Int) (w' : World), LR b P s R' k uo kd fl w' → Fr b w w' → LxP b G s R' k uo kd fl cs S w w' from fun R' uo kd fl w' hL f => LxP.quiet hX hL f (by
    obtain ⟨k', hA', hst', -⟩ := hL.reads
    have := hA'.size
    omega))
  clear h hX hA HR HC
  have g10 : (97 ≤ hdB r ∧ hdB r ≤ 122) ∨ (65 ≤ hdB r ∧ hdB r ≤ 90) ∨ hdB r = 95 ∨ 128 ≤ hdB r ∨ hdB r = 0 := of_decide_eq_true g
  obtain ⟨c, hc⟩ : ∃ c : Nat, hdB r = (c : Int) := ⟨(hdB r).toNat, by omega⟩
  have NB := Lib.hid (next_tok hc (by omega) (fun e => by omega) (tokB_ident (wouldB_ns g) (cntB_no (decide_eq_false (by omega)) (by omega) (by omega) (by omega)) (fun h => by omega)))
  have N := Lib.hid (fun w => isNameStart (hdB r) w)
  rw [g] at N
  clear g hc c
  have hL := H0.out
  obtain ⟨k', hA', hst, hk, hss, -, -, c35, c36, c37⟩ := hL.reads
  obtain rfl := HA.out.unique hA'
  have hkz := HA.out.le
  have E := Lib.hid (fun w => rangeEndI st0 k w hst (by omega))
  have c38 := hL.c38'
  obtain ⟨c39, c40⟩ := hL.c3940
  have hlt := hL.lt
  have z36 := hL.fz 36
  have z37 := hL.fz 37
  have z38 := hL.fz 38
  have z39 := hL.fz 39
  have z40 := hL.fz 40
  clear hL hA' hst hk
  conv => arg 2; whnf
  unfold nxF
  go_wp2_with fail
  refine (E.out _).mono ?_
  rintro e w1 ⟨rfl, hb1⟩
  have d35 := (hb1.cell (p := ⟨b, 35, none⟩) hlt).trans c35
  have d36 := (hb1.cell (p := ⟨b, 36, none⟩) hlt).trans c36
  have d37 := (hb1.cell (p := ⟨b, 37, none⟩) hlt).trans c37
  have d38 := (hb1.cell (p := ⟨b, 38, none⟩) hlt).trans c38
  have d39 := (hb1.cell (p := ⟨b, 39, none⟩) hlt).trans c39
  have d40 := (hb1.cell (p := ⟨b, 40, none⟩) hlt).trans c40
  have y36 := (hb1.frozen (p := ⟨b, 36, none⟩) hlt).trans z36
  have y37 := (hb1.frozen (p := ⟨b, 37, none⟩) hlt).trans z37
  have y38 := (hb1.frozen (p := ⟨b, 38, none⟩) hlt).trans z38
  have y39 := (hb1.frozen (p := ⟨b, 39, none⟩) hlt).trans z39
  have y40 := (hb1.frozen (p := ⟨b, 40, none⟩) hlt).trans z40
  have H1 := Lib.hid (H0.out.fr hb1)
  have F1 := Lib.hid (Fr.of (b := b) hb1)
  clear hb1 c35 c36 c37 c38 c39 c40 z36 z37 z38 z39 z40 H0 E
  go_upto_region 1 with fail
  obtain ⟨w2, hw2⟩ : ∃ x, (((((w1.setCell ⟨b, 36, none⟩ (.int .i32 (k : Int))).setCell ⟨b, 37, none⟩ (.int .i32 0)).setCell ⟨b, 38, none⟩ (.int .u16 0)).setCell ⟨b, 39, none⟩ (.int .u8 0)).setCell ⟨b, 40, none⟩ (.int .u8 0)) = x := ⟨_, rfl⟩
  rw [hw2]
  have hL2 : LR b P s r k 0 0 0 w2 := by rw [← hw2]; exact H1.out.begin HA.out
  have F2 := Lib.hid (show Fr b w w2 by rw [← hw2]; exact F1.out.trans (((((Fr.setCell w1 36 _).trans (Fr.setCell _ 37 _)).trans (Fr.setCell _ 38 _)).trans (Fr.setCell _ 39 _)).trans (Fr.setCell _ 40 _)))
  clear hw2 d35 d36 d37 d38 d39 d40 y36 y37 y38 y39 y40 H1 F1
  obtain ⟨k', hA', hst', hk', hss', -, -, c35, c36, c37⟩ := hL2.reads
  clear hA' hk' hss' hst' c36 c37
  have hlt2 := hL2.lt
  obtain ⟨c39, c40⟩ := hL2.c3940
  have z39 := hL2.fz 39
  have z40 := hL2.fz 40
  have H2 := Lib.hid hL2
  have X2 := Lib.hid (HX.out.fr (k' := k) F2.out (Nat.le_refl _))
  have S2 := Lib.hid (ST.out _ _ _ _ _ _ _ hL2)
  clear hL2
  have C := Lib.hid (fun w h X => idlG b G P s r k k 0 0 0 cs S _ _ _ w h X (Nat.le_refl _) HA.out (show identB r = ((identB r).1, (identB r).2.1, (identB r).2.2) from rfl))
  obtain ⟨cq, hcq⟩ : ∃ cq, hdB r = cq := ⟨_, rfl⟩
  rw [hcq] at c35 N g10
  clear hcq
  have t0 : (cq == -1) = false := beq_eq_false_iff_ne.2 (by omega)
  have t1 : (cq == 47) = false := beq_eq_false_iff_ne.2 (by omega)
  have t2 : (cq == 32) = false := beq_eq_false_iff_ne.2 (by omega)
  have t3 : (cq == 9) = false := beq_eq_false_iff_ne.2 (by omega)
  have t4 : (cq == 10) = false := beq_eq_false_iff_ne.2 (by omega)
  have t5 : (cq == 13) = false := beq_eq_false_iff_ne.2 (by omega)
  have t6 : (cq == 12) = false := beq_eq_false_iff_ne.2 (by omega)
  have t7 : (cq == 34) = false := beq_eq_false_iff_ne.2 (by omega)
  have t8 : (cq == 39) = false := beq_eq_false_iff_ne.2 (by omega)
  have t9 : (cq == 35) = false := beq_eq_false_iff_ne.2 (by omega)
  have t10 : (cq == 40) = false := beq_eq_false_iff_ne.2 (by omega)
  have t11 : (cq == 41) = false := beq_eq_false_iff_ne.2 (by omega)
  have t12 : (cq == 91) = false := beq_eq_false_iff_ne.2 (by omega)
  have t13 : (cq == 93) = false := beq_eq_false_iff_ne.2 (by omega)
  have t14 : (cq == 123) = false := beq_eq_false_iff_ne.2 (by omega)
  have t15 : (cq == 125) = false := beq_eq_false_iff_ne.2 (by omega)
  have t16 : (cq == 44) = false := beq_eq_false_iff_ne.2 (by omega)
  have t17 : (cq == 58) = false := beq_eq_false_iff_ne.2 (by omega)
  have t18 : (cq == 43) = false := beq_eq_false_iff_ne.2 (by omega)
  have t19 : (cq == 46) = false := beq_eq_false_iff_ne.2 (by omega)
  have t20 : (cq == 45) = false := beq_eq_false_iff_ne.2 (by omega)
  have t21 : (cq == 60) = false := beq_eq_false_iff_ne.2 (by omega)
  have t22 : (cq == 64) = false := beq_eq_false_iff_ne.2 (by omega)
  have t23 : (cq == 92) = false := beq_eq_false_iff_ne.2 (by omega)
  have t24 : (cq == 48) = false := beq_eq_false_iff_ne.2 (by omega)
  have t25 : (cq == 49) = false := beq_eq_false_iff_ne.2 (by omega)
  have t26 : (cq == 50) = false := beq_eq_false_iff_ne.2 (by omega)
  have t27 : (cq == 51) = false := beq_eq_false_iff_ne.2 (by omega)
  have t28 : (cq == 52) = false := beq_eq_false_iff_ne.2 (by omega)
  have t29 : (cq == 53) = false := beq_eq_false_iff_ne.2 (by omega)
  have t30 : (cq == 54) = false := beq_eq_false_iff_ne.2 (by omega)
  have t31 : (cq == 55) = false := beq_eq_false_iff_ne.2 (by omega)
  have t32 : (cq == 56) = false := beq_eq_false_iff_ne.2 (by omega)
  have t33 : (cq == 57) = false := beq_eq_false_iff_ne.2 (by omega)
  have t34 : (cq == 59) = false := beq_eq_false_iff_ne.2 (by omega)
  have t35 : (cq == 62) = false := beq_eq_false_iff_ne.2 (by omega)
  have t36 : (cq == 126) = false := beq_eq_false_iff_ne.2 (by omega)
  have t37 : (cq == 38) = false := beq_eq_false_iff_ne.2 (by omega)
  have t38 : (cq == 42) = false := beq_eq_false_iff_ne.2 (by omega)
  have t39 : (cq == 124) = false := beq_eq_false_iff_ne.2 (by omega)
  have t40 : (cq == 33) = false := beq_eq_false_iff_ne.2 (by omega)
  have t41 : (cq == 61) = false := beq_eq_false_iff_ne.2 (by omega)
  have t42 : (cq == 94) = false := beq_eq_false_iff_ne.2 (by omega)
  have t43 : (cq == 36) = false := beq_eq_false_iff_ne.2 (by omega)
  clear g10
  go_wp2_with (go_at_call 47; refine (N.out _).mono ?_; rintro e w' ⟨rfl, rfl⟩)
  refine (C.out _ H2.out X2.out).mono ?_
  rintro e w9 ⟨rfl, h9⟩
  have d39 := h9.c39
  have y39 := h9.z39
  have H9 := Lib.hid (LxP.trans (F2.out.fx HX.out.own) (fun _ hi => .inl hi) h9)
  clear h9
  go_wp2_with fail
  exact FIN.out _ 0 0 _ _ _ NB.out (by decide) (by decide) (H9.out.set39 _)

set_option maxHeartbeats 16000000 in
set_option maxRecDepth 1000000 in
theorem nxDel {b : Nat} {G : LogI} {s : ByteArray} {r : List UInt8} {c : Nat} (hc : hdB r = (c : Int)) (hn : nsB (hdB r) = false) (hg : c ≠ 47 ∧ c ≠ 32 ∧ c ≠ 9 ∧ c ≠ 10 ∧ c ≠ 13 ∧ c ≠ 12 ∧ c ≠ 34 ∧ c ≠ 39 ∧ c ≠ 35 ∧ c ≠ 40 ∧ c ≠ 41 ∧ c ≠ 91 ∧ c ≠ 93 ∧ c ≠ 123 ∧ c ≠ 125 ∧ c ≠ 44 ∧ c ≠ 58 ∧ c ≠ 43 ∧ c ≠ 46 ∧ c ≠ 45 ∧ c ≠ 60 ∧ c ≠ 64 ∧ c ≠ 92 ∧ c ≠ 48 ∧ c ≠ 49 ∧ c ≠ 50 ∧ c ≠ 51 ∧ c ≠ 52 ∧ c ≠ 53 ∧ c ≠ 54 ∧ c ≠ 55 ∧ c ≠ 56 ∧ c ≠ 57 ∧ c ≠ 59 ∧ c ≠ 62 ∧ c ≠ 126 ∧ c ≠ 38 ∧ c ≠ 42 ∧ c ≠ 124 ∧ c ≠ 33 ∧ c ≠ 61 ∧ c ≠ 94 ∧ c ≠ 36) : NxW b G s r := by
  intro P st0 k uo0 kd0 fl0 cs S f QN Q0 w h hX hA HR HC
  have ST := Lib.hid (fun P r st uo kd fl w (h : LR b P s r st uo kd fl w) => stepL b P s r st uo kd fl w h)
  have H0 := Lib.hid h
  have HA := Lib.hid hA
  have HX := Lib.hid hX
  have FIN := Lib.hid (show ∀ (kd uo fl : Nat) (R' : List UInt8) (T' : Array Value) (w' : World), nextB r = ([], r, kd, R') → uo ≤ 65535 → fl ≤ 2 → LxP b G s R' k (uo : Int) (kd : Int) (fl : Int) cs S w w' → Q0 .ret ⟨T', []⟩ w' from fun kd uo fl R' a' w' e1 e2 e3 e4 => HR _ _ (nxg_tok hA e1 e2 e3 e4))
  have QQ := Lib.hid (show ∀ (R' : List UInt8) (uo kd fl : Int) (w' : World), LR b P s R' k uo kd fl w' → Fr b w w' → LxP b G s R' k uo kd fl cs S w w' from fun R' uo kd fl w' hL f => LxP.quiet hX hL f (by
    obtain ⟨k', hA', hst', -⟩ := hL.reads
    have := hA'.size
    omega))
  clear h hX hA HR HC
  have hnd : dgB (hdB r) = false := decide_eq_false (by omega)
  have NB := Lib.hid (next_tok hc (by omega) (fun e => by omega) (tokB_delim hc hn hnd (by omega)))
  rw [signK_delim (by omega)] at NB
  have N := Lib.hid (fun w => isNameStart (hdB r) w)
  rw [hn] at N
  clear hnd hn
  have hL := H0.out
  obtain ⟨k', hA', hst, hk, hss, -, -, c35, c36, c37⟩ := hL.reads
  obtain rfl := HA.out.unique hA'
  have hkz := HA.out.le
  have E := Lib.hid (fun w => rangeEndI st0 k w hst (by omega))
  have c38 := hL.c38'
  obtain ⟨c39, c40⟩ := hL.c3940
  have hlt := hL.lt
  have z36 := hL.fz 36
  have z37 := hL.fz 37
  have z38 := hL.fz 38
  have z39 := hL.fz 39
  have z40 := hL.fz 40
  clear hL hA' hst hk
  conv => arg 2; whnf
  unfold nxF
  go_wp2_with fail
  refine (E.out _).mono ?_
  rintro e w1 ⟨rfl, hb1⟩
  have d35 := (hb1.cell (p := ⟨b, 35, none⟩) hlt).trans c35
  have d36 := (hb1.cell (p := ⟨b, 36, none⟩) hlt).trans c36
  have d37 := (hb1.cell (p := ⟨b, 37, none⟩) hlt).trans c37
  have d38 := (hb1.cell (p := ⟨b, 38, none⟩) hlt).trans c38
  have d39 := (hb1.cell (p := ⟨b, 39, none⟩) hlt).trans c39
  have d40 := (hb1.cell (p := ⟨b, 40, none⟩) hlt).trans c40
  have y36 := (hb1.frozen (p := ⟨b, 36, none⟩) hlt).trans z36
  have y37 := (hb1.frozen (p := ⟨b, 37, none⟩) hlt).trans z37
  have y38 := (hb1.frozen (p := ⟨b, 38, none⟩) hlt).trans z38
  have y39 := (hb1.frozen (p := ⟨b, 39, none⟩) hlt).trans z39
  have y40 := (hb1.frozen (p := ⟨b, 40, none⟩) hlt).trans z40
  have H1 := Lib.hid (H0.out.fr hb1)
  have F1 := Lib.hid (Fr.of (b := b) hb1)
  clear hb1 c35 c36 c37 c38 c39 c40 z36 z37 z38 z39 z40 H0 E
  go_upto_region 1 with fail
  obtain ⟨w2, hw2⟩ : ∃ x, (((((w1.setCell ⟨b, 36, none⟩ (.int .i32 (k : Int))).setCell ⟨b, 37, none⟩ (.int .i32 0)).setCell ⟨b, 38, none⟩ (.int .u16 0)).setCell ⟨b, 39, none⟩ (.int .u8 0)).setCell ⟨b, 40, none⟩ (.int .u8 0)) = x := ⟨_, rfl⟩
  rw [hw2]
  have hL2 : LR b P s r k 0 0 0 w2 := by rw [← hw2]; exact H1.out.begin HA.out
  have F2 := Lib.hid (show Fr b w w2 by rw [← hw2]; exact F1.out.trans (((((Fr.setCell w1 36 _).trans (Fr.setCell _ 37 _)).trans (Fr.setCell _ 38 _)).trans (Fr.setCell _ 39 _)).trans (Fr.setCell _ 40 _)))
  clear hw2 d35 d36 d37 d38 d39 d40 y36 y37 y38 y39 y40 H1 F1
  obtain ⟨k', hA', hst', hk', hss', -, -, c35, c36, c37⟩ := hL2.reads
  clear hA' hk' hss' hst' c36 c37
  have hlt2 := hL2.lt
  obtain ⟨c39, c40⟩ := hL2.c3940
  have z39 := hL2.fz 39
  have z40 := hL2.fz 40
  have H2 := Lib.hid hL2
  have X2 := Lib.hid (HX.out.fr (k' := k) F2.out (Nat.le_refl _))
  have S2 := Lib.hid (ST.out _ _ _ _ _ _ _ hL2)
  clear hL2
  obtain ⟨cq, hcq⟩ : ∃ cq, hdB r = cq := ⟨_, rfl⟩
  rw [hcq] at c35 N hc
  clear hcq
  have t0 : (cq == -1) = false := beq_eq_false_iff_ne.2 (by omega)
  have t1 : (cq == 47) = false := beq_eq_false_iff_ne.2 (by omega)
  have t2 : (cq == 32) = false := beq_eq_false_iff_ne.2 (by omega)
  have t3 : (cq == 9) = false := beq_eq_false_iff_ne.2 (by omega)
  have t4 : (cq == 10) = false := beq_eq_false_iff_ne.2 (by omega)
  have t5 : (cq == 13) = false := beq_eq_false_iff_ne.2 (by omega)
  have t6 : (cq == 12) = false := beq_eq_false_iff_ne.2 (by omega)
  have t7 : (cq == 34) = false := beq_eq_false_iff_ne.2 (by omega)
  have t8 : (cq == 39) = false := beq_eq_false_iff_ne.2 (by omega)
  have t9 : (cq == 35) = false := beq_eq_false_iff_ne.2 (by omega)
  have t10 : (cq == 40) = false := beq_eq_false_iff_ne.2 (by omega)
  have t11 : (cq == 41) = false := beq_eq_false_iff_ne.2 (by omega)
  have t12 : (cq == 91) = false := beq_eq_false_iff_ne.2 (by omega)
  have t13 : (cq == 93) = false := beq_eq_false_iff_ne.2 (by omega)
  have t14 : (cq == 123) = false := beq_eq_false_iff_ne.2 (by omega)
  have t15 : (cq == 125) = false := beq_eq_false_iff_ne.2 (by omega)
  have t16 : (cq == 44) = false := beq_eq_false_iff_ne.2 (by omega)
  have t17 : (cq == 58) = false := beq_eq_false_iff_ne.2 (by omega)
  have t18 : (cq == 43) = false := beq_eq_false_iff_ne.2 (by omega)
  have t19 : (cq == 46) = false := beq_eq_false_iff_ne.2 (by omega)
  have t20 : (cq == 45) = false := beq_eq_false_iff_ne.2 (by omega)
  have t21 : (cq == 60) = false := beq_eq_false_iff_ne.2 (by omega)
  have t22 : (cq == 64) = false := beq_eq_false_iff_ne.2 (by omega)
  have t23 : (cq == 92) = false := beq_eq_false_iff_ne.2 (by omega)
  have t24 : (cq == 48) = false := beq_eq_false_iff_ne.2 (by omega)
  have t25 : (cq == 49) = false := beq_eq_false_iff_ne.2 (by omega)
  have t26 : (cq == 50) = false := beq_eq_false_iff_ne.2 (by omega)
  have t27 : (cq == 51) = false := beq_eq_false_iff_ne.2 (by omega)
  have t28 : (cq == 52) = false := beq_eq_false_iff_ne.2 (by omega)
  have t29 : (cq == 53) = false := beq_eq_false_iff_ne.2 (by omega)
  have t30 : (cq == 54) = false := beq_eq_false_iff_ne.2 (by omega)
  have t31 : (cq == 55) = false := beq_eq_false_iff_ne.2 (by omega)
  have t32 : (cq == 56) = false := beq_eq_false_iff_ne.2 (by omega)
  have t33 : (cq == 57) = false := beq_eq_false_iff_ne.2 (by omega)
  have t34 : (cq == 59) = false := beq_eq_false_iff_ne.2 (by omega)
  have t35 : (cq == 62) = false := beq_eq_false_iff_ne.2 (by omega)
  have t36 : (cq == 126) = false := beq_eq_false_iff_ne.2 (by omega)
  have t37 : (cq == 38) = false := beq_eq_false_iff_ne.2 (by omega)
  have t38 : (cq == 42) = false := beq_eq_false_iff_ne.2 (by omega)
  have t39 : (cq == 124) = false := beq_eq_false_iff_ne.2 (by omega)
  have t40 : (cq == 33) = false := beq_eq_false_iff_ne.2 (by omega)
  have t41 : (cq == 61) = false := beq_eq_false_iff_ne.2 (by omega)
  have t42 : (cq == 94) = false := beq_eq_false_iff_ne.2 (by omega)
  have t43 : (cq == 36) = false := beq_eq_false_iff_ne.2 (by omega)
  clear hg hc
  go_wp2_with (go_at_call 47; refine (N.out _).mono ?_; rintro e w' ⟨rfl, rfl⟩)
  refine (S2.out).mono ?_
  rintro e w3 ⟨rfl, h3, f3⟩
  have d39 := h3.c3940.1
  have y39 := h3.fz 39
  have H3 := Lib.hid h3
  have F3 := Lib.hid (F2.out.trans f3)
  clear h3 f3 c39 c40 z39 z40
  go_wp2_with fail
  exact FIN.out 11 0 0 _ _ _ NB.out (by decide) (by decide) (QQ.out _ _ _ _ _ (H3.out.set39 11) (F3.out.trans (Fr.setCell _ 39 _)))
end Go.Proofs.YtmgkccnfhkcncaaGreatDoor
