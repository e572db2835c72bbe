/-
  css_lexer's lexer: next in general, class by class (signs). Printed by wip/gen_nxg.py.
-/
import Derived.Test.YtmgkccnfhkcncaaGreatDoorNxFW
namespace Go.Proofs.YtmgkccnfhkcncaaGreatDoor
open Go.RowKit
attribute [local go_sem ↓] Go.wp_at_zero Go.wp_at_succ

theorem nxSgA_next {r : List UInt8} {c : Int} {kd : Nat} (hc : (c = 33 ∧ kd = 19) ∨ (c = 36 ∧ kd = 16) ∨ (c = 38 ∧ kd = 12) ∨ (c = 40 ∧ kd = 33) ∨ (c = 41 ∧ kd = 8) ∨ (c = 42 ∧ kd = 13) ∨ (c = 44 ∧ kd = 10) ∨ (c = 58 ∧ kd = 9) ∨ (c = 59 ∧ kd = 35)) (g : hdB r = c) : nextB r = ([], r, kd, tlB r) := by
  rcases hc with ⟨rfl, rfl⟩ | ⟨rfl, rfl⟩ | ⟨rfl, rfl⟩ | ⟨rfl, rfl⟩ | ⟨rfl, rfl⟩ | ⟨rfl, rfl⟩ | ⟨rfl, rfl⟩ | ⟨rfl, rfl⟩ | ⟨rfl, rfl⟩
  · exact next_tok (c := 33) g (by decide) (fun e => absurd e (by decide)) (tokB_sign (c := 33) g (by decide))
  · exact next_tok (c := 36) g (by decide) (fun e => absurd e (by decide)) (tokB_sign (c := 36) g (by decide))
  · exact next_tok (c := 38) g (by decide) (fun e => absurd e (by decide)) (tokB_sign (c := 38) g (by decide))
  · exact next_tok (c := 40) g (by decide) (fun e => absurd e (by decide)) (tokB_sign (c := 40) g (by decide))
  · exact next_tok (c := 41) g (by decide) (fun e => absurd e (by decide)) (tokB_sign (c := 41) g (by decide))
  · exact next_tok (c := 42) g (by decide) (fun e => absurd e (by decide)) (tokB_sign (c := 42) g (by decide))
  · exact next_tok (c := 44) g (by decide) (fun e => absurd e (by decide)) (tokB_sign (c := 44) g (by decide))
  · exact next_tok (c := 58) g (by decide) (fun e => absurd e (by decide)) (tokB_sign (c := 58) g (by decide))
  · exact next_tok (c := 59) g (by decide) (fun e => absurd e (by decide)) (tokB_sign (c := 59) g (by decide))
set_option maxHeartbeats 16000000 in
set_option maxRecDepth 1000000 in
theorem nxSgA {b : Nat} {G : LogI} {s : ByteArray} {r : List UInt8} {c : Int} {kd : Nat} (hc : (c = 33 ∧ kd = 19) ∨ (c = 36 ∧ kd = 16) ∨ (c = 38 ∧ kd = 12) ∨ (c = 40 ∧ kd = 33) ∨ (c = 41 ∧ kd = 8) ∨ (c = 42 ∧ kd = 13) ∨ (c = 44 ∧ kd = 10) ∨ (c = 58 ∧ kd = 9) ∨ (c = 59 ∧ kd = 35)) (g : hdB r = c) : NxW b G s r := by
  intro P st0 k uo0 kd0 fl0 cs S f QN Q0 w h hX hA HR HC
  have ST := Lib.hid (fun P r st uo kd fl w (h : LR b P s r st uo kd fl w) => stepL b P s r st uo kd fl w h)
  have H0 := Lib.hid h
  have HA := Lib.hid hA
  have HX := Lib.hid hX
  have FIN := Lib.hid (show ∀ (kd uo fl : Nat) (R' : List UInt8) (T' : Array Value) (w' : World), nextB r = ([], r, kd, R') → uo ≤ 65535 → fl ≤ 2 → LxP b G s R' k (uo : Int) (kd : Int) (fl : Int) cs S w w' → Q0 .ret ⟨T', []⟩ w' from fun kd uo fl R' a' w' e1 e2 e3 e4 => HR _ _ (nxg_tok hA e1 e2 e3 e4))
  have QQ := Lib.hid (show ∀ (R' : List UInt8) (uo kd fl : Int) (w' : World), LR b P s R' k uo kd fl w' → Fr b w w' → LxP b G s R' k uo kd fl cs S w w' from fun R' uo kd fl w' hL f => LxP.quiet hX hL f (by
    obtain ⟨k', hA', hst', -⟩ := hL.reads
    have := hA'.size
    omega))
  clear h hX hA HR HC
  have NB := Lib.hid (nxSgA_next hc g)
  have hL := H0.out
  obtain ⟨k', hA', hst, hk, hss, -, -, c35, c36, c37⟩ := hL.reads
  obtain rfl := HA.out.unique hA'
  have hkz := HA.out.le
  have E := Lib.hid (fun w => rangeEndI st0 k w hst (by omega))
  have c38 := hL.c38'
  obtain ⟨c39, c40⟩ := hL.c3940
  have hlt := hL.lt
  have z36 := hL.fz 36
  have z37 := hL.fz 37
  have z38 := hL.fz 38
  have z39 := hL.fz 39
  have z40 := hL.fz 40
  clear hL hA' hst hk
  conv => arg 2; whnf
  unfold nxF
  go_wp2_with fail
  refine (E.out _).mono ?_
  rintro e w1 ⟨rfl, hb1⟩
  have d35 := (hb1.cell (p := ⟨b, 35, none⟩) hlt).trans c35
  have d36 := (hb1.cell (p := ⟨b, 36, none⟩) hlt).trans c36
  have d37 := (hb1.cell (p := ⟨b, 37, none⟩) hlt).trans c37
  have d38 := (hb1.cell (p := ⟨b, 38, none⟩) hlt).trans c38
  have d39 := (hb1.cell (p := ⟨b, 39, none⟩) hlt).trans c39
  have d40 := (hb1.cell (p := ⟨b, 40, none⟩) hlt).trans c40
  have y36 := (hb1.frozen (p := ⟨b, 36, none⟩) hlt).trans z36
  have y37 := (hb1.frozen (p := ⟨b, 37, none⟩) hlt).trans z37
  have y38 := (hb1.frozen (p := ⟨b, 38, none⟩) hlt).trans z38
  have y39 := (hb1.frozen (p := ⟨b, 39, none⟩) hlt).trans z39
  have y40 := (hb1.frozen (p := ⟨b, 40, none⟩) hlt).trans z40
  have H1 := Lib.hid (H0.out.fr hb1)
  have F1 := Lib.hid (Fr.of (b := b) hb1)
  clear hb1 c35 c36 c37 c38 c39 c40 z36 z37 z38 z39 z40 H0 E
  go_upto_region 1 with fail
  obtain ⟨w2, hw2⟩ : ∃ x, (((((w1.setCell ⟨b, 36, none⟩ (.int .i32 (k : Int))).setCell ⟨b, 37, none⟩ (.int .i32 0)).setCell ⟨b, 38, none⟩ (.int .u16 0)).setCell ⟨b, 39, none⟩ (.int .u8 0)).setCell ⟨b, 40, none⟩ (.int .u8 0)) = x := ⟨_, rfl⟩
  rw [hw2]
  have hL2 : LR b P s r k 0 0 0 w2 := by rw [← hw2]; exact H1.out.begin HA.out
  have F2 := Lib.hid (show Fr b w w2 by rw [← hw2]; exact F1.out.trans (((((Fr.setCell w1 36 _).trans (Fr.setCell _ 37 _)).trans (Fr.setCell _ 38 _)).trans (Fr.setCell _ 39 _)).trans (Fr.setCell _ 40 _)))
  clear hw2 d35 d36 d37 d38 d39 d40 y36 y37 y38 y39 y40 H1 F1
  obtain ⟨k', hA', hst', hk', hss', -, -, c35, c36, c37⟩ := hL2.reads
  clear hA' hk' hss' hst' c36 c37
  have hlt2 := hL2.lt
  obtain ⟨c39, c40⟩ := hL2.c3940
  have z39 := hL2.fz 39
  have z40 := hL2.fz 40
  have H2 := Lib.hid hL2
  have X2 := Lib.hid (HX.out.fr (k' := k) F2.out (Nat.le_refl _))
  have S2 := Lib.hid (ST.out _ _ _ _ _ _ _ hL2)
  clear hL2
  rw [g] at c35
  clear g
  rcases hc with ⟨rfl, rfl⟩ | ⟨rfl, rfl⟩ | ⟨rfl, rfl⟩ | ⟨rfl, rfl⟩ | ⟨rfl, rfl⟩ | ⟨rfl, rfl⟩ | ⟨rfl, rfl⟩ | ⟨rfl, rfl⟩ | ⟨rfl, rfl⟩
  all_goals
    as_aux_lemma =>
      go_wp2_with fail
      refine (S2.out).mono ?_
      rintro e w3 ⟨rfl, h3, f3⟩
      have d39 := h3.c3940.1
      have y39 := h3.fz 39
      have H3 := Lib.hid h3
      have F3 := Lib.hid (F2.out.trans f3)
      clear h3 f3 c39 c40 z39 z40
      go_wp2_with fail
      exact FIN.out _ 0 0 _ _ _ NB.out (by decide) (by decide) (QQ.out _ _ _ _ _ (H3.out.set39 _) (F3.out.trans (Fr.setCell _ 39 _)))

theorem nxSgB_next {r : List UInt8} {c : Int} {kd : Nat} (hc : (c = 61 ∧ kd = 18) ∨ (c = 62 ∧ kd = 20) ∨ (c = 91 ∧ kd = 32) ∨ (c = 93 ∧ kd = 7) ∨ (c = 94 ∧ kd = 15) ∨ (c = 123 ∧ kd = 31) ∨ (c = 124 ∧ kd = 14) ∨ (c = 125 ∧ kd = 6) ∨ (c = 126 ∧ kd = 25)) (g : hdB r = c) : nextB r = ([], r, kd, tlB r) := by
  rcases hc with ⟨rfl, rfl⟩ | ⟨rfl, rfl⟩ | ⟨rfl, rfl⟩ | ⟨rfl, rfl⟩ | ⟨rfl, rfl⟩ | ⟨rfl, rfl⟩ | ⟨rfl, rfl⟩ | ⟨rfl, rfl⟩ | ⟨rfl, rfl⟩
  · exact next_tok (c := 61) g (by decide) (fun e => absurd e (by decide)) (tokB_sign (c := 61) g (by decide))
  · exact next_tok (c := 62) g (by decide) (fun e => absurd e (by decide)) (tokB_sign (c := 62) g (by decide))
  · exact next_tok (c := 91) g (by decide) (fun e => absurd e (by decide)) (tokB_sign (c := 91) g (by decide))
  · exact next_tok (c := 93) g (by decide) (fun e => absurd e (by decide)) (tokB_sign (c := 93) g (by decide))
  · exact next_tok (c := 94) g (by decide) (fun e => absurd e (by decide)) (tokB_sign (c := 94) g (by decide))
  · exact next_tok (c := 123) g (by decide) (fun e => absurd e (by decide)) (tokB_sign (c := 123) g (by decide))
  · exact next_tok (c := 124) g (by decide) (fun e => absurd e (by decide)) (tokB_sign (c := 124) g (by decide))
  · exact next_tok (c := 125) g (by decide) (fun e => absurd e (by decide)) (tokB_sign (c := 125) g (by decide))
  · exact next_tok (c := 126) g (by decide) (fun e => absurd e (by decide)) (tokB_sign (c := 126) g (by decide))
set_option maxHeartbeats 16000000 in
set_option maxRecDepth 1000000 in
theorem nxSgB {b : Nat} {G : LogI} {s : ByteArray} {r : List UInt8} {c : Int} {kd : Nat} (hc : (c = 61 ∧ kd = 18) ∨ (c = 62 ∧ kd = 20) ∨ (c = 91 ∧ kd = 32) ∨ (c = 93 ∧ kd = 7) ∨ (c = 94 ∧ kd = 15) ∨ (c = 123 ∧ kd = 31) ∨ (c = 124 ∧ kd = 14) ∨ (c = 125 ∧ kd = 6) ∨ (c = 126 ∧ kd = 25)) (g : hdB r = c) : NxW b G s r := by
  intro P st0 k uo0 kd0 fl0 cs S f QN Q0 w h hX hA HR HC
  have ST := Lib.hid (fun P r st uo kd fl w (h : LR b P s r st uo kd fl w) => stepL b P s r st uo kd fl w h)
  have H0 := Lib.hid h
  have HA := Lib.hid hA
  have HX := Lib.hid hX
  have FIN := Lib.hid (show ∀ (kd uo fl : Nat) (R' : List UInt8) (T' : Array Value) (w' : World), nextB r = ([], r, kd, R') → uo ≤ 65535 → fl ≤ 2 → LxP b G s R' k (uo : Int) (kd : Int) (fl : Int) cs S w w' → Q0 .ret ⟨T', []⟩ w' from fun kd uo fl R' a' w' e1 e2 e3 e4 => HR _ _ (nxg_tok hA e1 e2 e3 e4))
  have QQ := Lib.hid (show ∀ (R' : List UInt8) (uo kd fl : Int) (w' : World), LR b P s R' k uo kd fl w' → Fr b w w' → LxP b G s R' k uo kd fl cs S w w' from fun R' uo kd fl w' hL f => LxP.quiet hX hL f (by
    obtain ⟨k', hA', hst', -⟩ := hL.reads
    have := hA'.size
    omega))
  clear h hX hA HR HC
  have NB := Lib.hid (nxSgB_next hc g)
  have hL := H0.out
  obtain ⟨k', hA', hst, hk, hss, -, -, c35, c36, c37⟩ := hL.reads
  obtain rfl := HA.out.unique hA'
  have hkz := HA.out.le
  have E := Lib.hid (fun w => rangeEndI st0 k w hst (by omega))
  have c38 := hL.c38'
  obtain ⟨c39, c40⟩ := hL.c3940
  have hlt := hL.lt
  have z36 := hL.fz 36
  have z37 := hL.fz 37
  have z38 := hL.fz 38
  have z39 := hL.fz 39
  have z40 := hL.fz 40
  clear hL hA' hst hk
  conv => arg 2; whnf
  unfold nxF
  go_wp2_with fail
  refine (E.out _).mono ?_
  rintro e w1 ⟨rfl, hb1⟩
  have d35 := (hb1.cell (p := ⟨b, 35, none⟩) hlt).trans c35
  have d36 := (hb1.cell (p := ⟨b, 36, none⟩) hlt).trans c36
  have d37 := (hb1.cell (p := ⟨b, 37, none⟩) hlt).trans c37
  have d38 := (hb1.cell (p := ⟨b, 38, none⟩) hlt).trans c38
  have d39 := (hb1.cell (p := ⟨b, 39, none⟩) hlt).trans c39
  have d40 := (hb1.cell (p := ⟨b, 40, none⟩) hlt).trans c40
  have y36 := (hb1.frozen (p := ⟨b, 36, none⟩) hlt).trans z36
  have y37 := (hb1.frozen (p := ⟨b, 37, none⟩) hlt).trans z37
  have y38 := (hb1.frozen (p := ⟨b, 38, none⟩) hlt).trans z38
  have y39 := (hb1.frozen (p := ⟨b, 39, none⟩) hlt).trans z39
  have y40 := (hb1.frozen (p := ⟨b, 40, none⟩) hlt).trans z40
  have H1 := Lib.hid (H0.out.fr hb1)
  have F1 := Lib.hid (Fr.of (b := b) hb1)
  clear hb1 c35 c36 c37 c38 c39 c40 z36 z37 z38 z39 z40 H0 E
  go_upto_region 1 with fail
  obtain ⟨w2, hw2⟩ : ∃ x, (((((w1.setCell ⟨b, 36, none⟩ (.int .i32 (k : Int))).setCell ⟨b, 37, none⟩ (.int .i32 0)).setCell ⟨b, 38, none⟩ (.int .u16 0)).setCell ⟨b, 39, none⟩ (.int .u8 0)).setCell ⟨b, 40, none⟩ (.int .u8 0)) = x := ⟨_, rfl⟩
  rw [hw2]
  have hL2 : LR b P s r k 0 0 0 w2 := by rw [← hw2]; exact H1.out.begin HA.out
  have F2 := Lib.hid (show Fr b w w2 by rw [← hw2]; exact F1.out.trans (((((Fr.setCell w1 36 _).trans (Fr.setCell _ 37 _)).trans (Fr.setCell _ 38 _)).trans (Fr.setCell _ 39 _)).trans (Fr.setCell _ 40 _)))
  clear hw2 d35 d36 d37 d38 d39 d40 y36 y37 y38 y39 y40 H1 F1
  obtain ⟨k', hA', hst', hk', hss', -, -, c35, c36, c37⟩ := hL2.reads
  clear hA' hk' hss' hst' c36 c37
  have hlt2 := hL2.lt
  obtain ⟨c39, c40⟩ := hL2.c3940
  have z39 := hL2.fz 39
  have z40 := hL2.fz 40
  have H2 := Lib.hid hL2
  have X2 := Lib.hid (HX.out.fr (k' := k) F2.out (Nat.le_refl _))
  have S2 := Lib.hid (ST.out _ _ _ _ _ _ _ hL2)
  clear hL2
  rw [g] at c35
  clear g
  rcases hc with ⟨rfl, rfl⟩ | ⟨rfl, rfl⟩ | ⟨rfl, rfl⟩ | ⟨rfl, rfl⟩ | ⟨rfl, rfl⟩ | ⟨rfl, rfl⟩ | ⟨rfl, rfl⟩ | ⟨rfl, rfl⟩ | ⟨rfl, rfl⟩
  all_goals
    as_aux_lemma =>
      go_wp2_with fail
      refine (S2.out).mono ?_
      rintro e w3 ⟨rfl, h3, f3⟩
      have d39 := h3.c3940.1
      have y39 := h3.fz 39
      have H3 := Lib.hid h3
      have F3 := Lib.hid (F2.out.trans f3)
      clear h3 f3 c39 c40 z39 z40
      go_wp2_with fail
      exact FIN.out _ 0 0 _ _ _ NB.out (by decide) (by decide) (QQ.out _ _ _ _ _ (H3.out.set39 _) (F3.out.trans (Fr.setCell _ 39 _)))
end Go.Proofs.YtmgkccnfhkcncaaGreatDoor
