/-
  css_lexer's lexer: next in general, class by class (quotes, the number sign, the at sign). Printed by wip/gen_nxg.py.
-/
import Derived.Test.YtmgkccnfhkcncaaGreatDoorNxFW
import Derived.Test.YtmgkccnfhkcncaaGreatDoorStrH
import Derived.Test.YtmgkccnfhkcncaaGreatDoorNameI
namespace Go.Proofs.YtmgkccnfhkcncaaGreatDoor
open Go.RowKit
attribute [local go_sem ↓] Go.wp_at_zero Go.wp_at_succ

set_option maxHeartbeats 16000000 in
set_option maxRecDepth 1000000 in
theorem nxQuo {b : Nat} {G : LogI} {s : ByteArray} {r : List UInt8} (g : hdB r = 34 ∨ hdB r = 39) : NxW b G s r := by
  intro P st0 k uo0 kd0 fl0 cs S f QN Q0 w h hX hA HR HC
  have ST := Lib.hid (fun P r st uo kd fl w (h : LR b P s r st uo kd fl w) => stepL b P s r st uo kd fl w h)
  have H0 := Lib.hid h
  have HA := Lib.hid hA
  have HX := Lib.hid hX
  have FIN := Lib.hid (show ∀ (kd uo fl : Nat) (R' : List UInt8) (T' : Array Value) (w' : World), nextB r = ([], r, kd, R') → uo ≤ 65535 → fl ≤ 2 → LxP b G s R' k (uo : Int) (kd : Int) (fl : Int) cs S w w' → Q0 .ret ⟨T', []⟩ w' from fun kd uo fl R' a' w' e1 e2 e3 e4 => HR _ _ (nxg_tok hA e1 e2 e3 e4))
  have QQ := Lib.hid (show ∀ (R' : List UInt8) (uo kd fl : Int) (w' : World), LR b P s R' k uo kd fl w' → Fr b w w' → LxP b G s R' k uo kd fl cs S w w' from fun R' uo kd fl w' hL f => LxP.quiet hX hL f (by
    obtain ⟨k', hA', hst', -⟩ := hL.reads
    have := hA'.size
    omega))
  clear h hX hA HR HC
  obtain ⟨x, hx⟩ : ∃ x, (strB (hdB r) (tlB r)).1 = x := ⟨_, rfl⟩
  obtain ⟨c, hc⟩ : ∃ c : Nat, hdB r = (c : Int) := ⟨(hdB r).toNat, by omega⟩
  have NB := Lib.hid (next_tok hc (by omega) (fun e => by omega) (tokB_str g))
  rw [hx] at NB
  clear hc c
  have hL := H0.out
  obtain ⟨k', hA', hst, hk, hss, -, -, c35, c36, c37⟩ := hL.reads
  obtain rfl := HA.out.unique hA'
  have hkz := HA.out.le
  have E := Lib.hid (fun w => rangeEndI st0 k w hst (by omega))
  have c38 := hL.c38'
  obtain ⟨c39, c40⟩ := hL.c3940
  have hlt := hL.lt
  have z36 := hL.fz 36
  have z37 := hL.fz 37
  have z38 := hL.fz 38
  have z39 := hL.fz 39
  have z40 := hL.fz 40
  clear hL hA' hst hk
  conv => arg 2; whnf
  unfold nxF
  go_wp2_with fail
  refine (E.out _).mono ?_
  rintro e w1 ⟨rfl, hb1⟩
  have d35 := (hb1.cell (p := ⟨b, 35, none⟩) hlt).trans c35
  have d36 := (hb1.cell (p := ⟨b, 36, none⟩) hlt).trans c36
  have d37 := (hb1.cell (p := ⟨b, 37, none⟩) hlt).trans c37
  have d38 := (hb1.cell (p := ⟨b, 38, none⟩) hlt).trans c38
  have d39 := (hb1.cell (p := ⟨b, 39, none⟩) hlt).trans c39
  have d40 := (hb1.cell (p := ⟨b, 40, none⟩) hlt).trans c40
  have y36 := (hb1.frozen (p := ⟨b, 36, none⟩) hlt).trans z36
  have y37 := (hb1.frozen (p := ⟨b, 37, none⟩) hlt).trans z37
  have y38 := (hb1.frozen (p := ⟨b, 38, none⟩) hlt).trans z38
  have y39 := (hb1.frozen (p := ⟨b, 39, none⟩) hlt).trans z39
  have y40 := (hb1.frozen (p := ⟨b, 40, none⟩) hlt).trans z40
  have H1 := Lib.hid (H0.out.fr hb1)
  have F1 := Lib.hid (Fr.of (b := b) hb1)
  clear hb1 c35 c36 c37 c38 c39 c40 z36 z37 z38 z39 z40 H0 E
  go_upto_region 1 with fail
  obtain ⟨w2, hw2⟩ : ∃ x, (((((w1.setCell ⟨b, 36, none⟩ (.int .i32 (k : Int))).setCell ⟨b, 37, none⟩ (.int .i32 0)).setCell ⟨b, 38, none⟩ (.int .u16 0)).setCell ⟨b, 39, none⟩ (.int .u8 0)).setCell ⟨b, 40, none⟩ (.int .u8 0)) = x := ⟨_, rfl⟩
  rw [hw2]
  have hL2 : LR b P s r k 0 0 0 w2 := by rw [← hw2]; exact H1.out.begin HA.out
  have F2 := Lib.hid (show Fr b w w2 by rw [← hw2]; exact F1.out.trans (((((Fr.setCell w1 36 _).trans (Fr.setCell _ 37 _)).trans (Fr.setCell _ 38 _)).trans (Fr.setCell _ 39 _)).trans (Fr.setCell _ 40 _)))
  clear hw2 d35 d36 d37 d38 d39 d40 y36 y37 y38 y39 y40 H1 F1
  obtain ⟨k', hA', hst', hk', hss', -, -, c35, c36, c37⟩ := hL2.reads
  clear hA' hk' hss' hst' c36 c37
  have hlt2 := hL2.lt
  obtain ⟨c39, c40⟩ := hL2.c3940
  have z39 := hL2.fz 39
  have z40 := hL2.fz 40
  have H2 := Lib.hid hL2
  have X2 := Lib.hid (HX.out.fr (k' := k) F2.out (Nat.le_refl _))
  have S2 := Lib.hid (ST.out _ _ _ _ _ _ _ hL2)
  clear hL2
  cases x
  · rw [if_neg (by decide)] at NB
    have C := Lib.hid (strF b G P s r k k 0 0 0 cs S (hdB r) _ w2 H2.out X2.out HA.out g rfl (Prod.ext hx rfl))
    obtain ⟨cq, hcq⟩ : ∃ cq, hdB r = cq := ⟨_, rfl⟩
    rw [hcq] at c35 g
    clear hx hcq
    rcases g with rfl | rfl
    all_goals
      go_wp2_with fail
      refine (C.out).mono ?_
      rintro e w3 ⟨rfl, h3⟩
      have d39 := h3.c39
      have y39 := h3.z39
      have H3 := Lib.hid (LxP.trans (F2.out.fx HX.out.own) (fun _ hi => .inl hi) h3)
      clear h3
      go_wp2_with fail
      exact FIN.out _ 0 0 _ _ _ NB.out (by decide) (by decide) (H3.out.set39 _)
  · rw [if_pos (by decide)] at NB
    have C := Lib.hid (strI b P s r k 0 0 0 (hdB r) _ w2 H2.out g rfl (Prod.ext hx rfl))
    obtain ⟨cq, hcq⟩ : ∃ cq, hdB r = cq := ⟨_, rfl⟩
    rw [hcq] at c35 g
    clear hx hcq
    rcases g with rfl | rfl
    all_goals
      go_wp2_with fail
      refine (C.out).mono ?_
      rintro e w3 ⟨rfl, h3, f3⟩
      have d39 := h3.c3940.1
      have y39 := h3.fz 39
      have H3 := Lib.hid h3
      have F3 := Lib.hid (F2.out.trans f3)
      clear h3 f3
      go_wp2_with fail
      exact FIN.out _ 0 0 _ _ _ NB.out (by decide) (by decide) (QQ.out _ _ _ _ _ (H3.out.set39 _) (F3.out.trans (Fr.setCell _ 39 _)))

set_option maxHeartbeats 16000000 in
set_option maxRecDepth 1000000 in
theorem nxHash {b : Nat} {G : LogI} {s : ByteArray} {r : List UInt8} (g : hdB r = 35) : NxW b G s r := by
  intro P st0 k uo0 kd0 fl0 cs S f QN Q0 w h hX hA HR HC
  have ST := Lib.hid (fun P r st uo kd fl w (h : LR b P s r st uo kd fl w) => stepL b P s r st uo kd fl w h)
  have H0 := Lib.hid h
  have HA := Lib.hid hA
  have HX := Lib.hid hX
  have FIN := Lib.hid (show ∀ (kd uo fl : Nat) (R' : List UInt8) (T' : Array Value) (w' : World), nextB r = ([], r, kd, R') → uo ≤ 65535 → fl ≤ 2 → LxP b G s R' k (uo : Int) (kd : Int) (fl : Int) cs S w w' → Q0 .ret ⟨T', []⟩ w' from fun kd uo fl R' a' w' e1 e2 e3 e4 => HR _ _ (nxg_tok hA e1 e2 e3 e4))
  have QQ := Lib.hid (show ∀ (R' : List UInt8) (uo kd fl : Int) (w' : World), LR b P s R' k uo kd fl w' → Fr b w w' → LxP b G s R' k uo kd fl cs S w w' from fun R' uo kd fl w' hL f => LxP.quiet hX hL f (by
    obtain ⟨k', hA', hst', -⟩ := hL.reads
    have := hA'.size
    omega))
  clear h hX hA HR HC
  obtain ⟨r1, hr1⟩ : ∃ r1, tlB r = r1 := ⟨_, rfl⟩
  obtain ⟨x, hx1⟩ : ∃ x, ncB (hdB r1) = x := ⟨_, rfl⟩
  obtain ⟨y, hy1⟩ : ∃ y, vescB r1 = y := ⟨_, rfl⟩
  have NB := Lib.hid (show nextB r = if (x || y) = true then ([], r, 28, nameR r1) else ([], r, 11, r1) by
    by_cases hh : ncB (hdB (tlB r)) = true ∨ vescB (tlB r) = true
    · rw [if_pos (by rw [hr1, hx1, hy1] at hh; rw [Bool.or_eq_true]; exact hh), ← hr1]
      exact next_tok (c := 35) g (by decide) (fun e => absurd e (by decide)) (tokB_hash g hh)
    · rw [if_neg (by rw [hr1, hx1, hy1] at hh; rw [Bool.or_eq_true]; exact hh), ← hr1]
      exact next_tok (c := 35) g (by decide) (fun e => absurd e (by decide)) (tokB_last (c := 35) g (by decide) (by decide) (fun _ => hh) (cntB_no (by rw [g]; decide) (by omega) (by omega) (by omega)) (fun hh => by omega) (wouldB_no (by rw [g]; decide) (by omega) (by omega)) (fun hh => by omega) (fun hh => by omega)))
  have N := Lib.hid (fun w => lexContinue (hdB r1) w)
  rw [hx1] at N
  have A1 := Lib.hid (HA.out.tail)
  rw [hr1] at A1
  have HY1 := Lib.hid hy1
  have HR1 := Lib.hid hr1
  clear hx1 hy1 hr1
  have hL := H0.out
  obtain ⟨k', hA', hst, hk, hss, -, -, c35, c36, c37⟩ := hL.reads
  obtain rfl := HA.out.unique hA'
  have hkz := HA.out.le
  have E := Lib.hid (fun w => rangeEndI st0 k w hst (by omega))
  have c38 := hL.c38'
  obtain ⟨c39, c40⟩ := hL.c3940
  have hlt := hL.lt
  have z36 := hL.fz 36
  have z37 := hL.fz 37
  have z38 := hL.fz 38
  have z39 := hL.fz 39
  have z40 := hL.fz 40
  clear hL hA' hst hk
  conv => arg 2; whnf
  unfold nxF
  go_wp2_with fail
  refine (E.out _).mono ?_
  rintro e w1 ⟨rfl, hb1⟩
  have d35 := (hb1.cell (p := ⟨b, 35, none⟩) hlt).trans c35
  have d36 := (hb1.cell (p := ⟨b, 36, none⟩) hlt).trans c36
  have d37 := (hb1.cell (p := ⟨b, 37, none⟩) hlt).trans c37
  have d38 := (hb1.cell (p := ⟨b, 38, none⟩) hlt).trans c38
  have d39 := (hb1.cell (p := ⟨b, 39, none⟩) hlt).trans c39
  have d40 := (hb1.cell (p := ⟨b, 40, none⟩) hlt).trans c40
  have y36 := (hb1.frozen (p := ⟨b, 36, none⟩) hlt).trans z36
  have y37 := (hb1.frozen (p := ⟨b, 37, none⟩) hlt).trans z37
  have y38 := (hb1.frozen (p := ⟨b, 38, none⟩) hlt).trans z38
  have y39 := (hb1.frozen (p := ⟨b, 39, none⟩) hlt).trans z39
  have y40 := (hb1.frozen (p := ⟨b, 40, none⟩) hlt).trans z40
  have H1 := Lib.hid (H0.out.fr hb1)
  have F1 := Lib.hid (Fr.of (b := b) hb1)
  clear hb1 c35 c36 c37 c38 c39 c40 z36 z37 z38 z39 z40 H0 E
  go_upto_region 1 with fail
  obtain ⟨w2, hw2⟩ : ∃ x, (((((w1.setCell ⟨b, 36, none⟩ (.int .i32 (k : Int))).setCell ⟨b, 37, none⟩ (.int .i32 0)).setCell ⟨b, 38, none⟩ (.int .u16 0)).setCell ⟨b, 39, none⟩ (.int .u8 0)).setCell ⟨b, 40, none⟩ (.int .u8 0)) = x := ⟨_, rfl⟩
  rw [hw2]
  have hL2 : LR b P s r k 0 0 0 w2 := by rw [← hw2]; exact H1.out.begin HA.out
  have F2 := Lib.hid (show Fr b w w2 by rw [← hw2]; exact F1.out.trans (((((Fr.setCell w1 36 _).trans (Fr.setCell _ 37 _)).trans (Fr.setCell _ 38 _)).trans (Fr.setCell _ 39 _)).trans (Fr.setCell _ 40 _)))
  clear hw2 d35 d36 d37 d38 d39 d40 y36 y37 y38 y39 y40 H1 F1
  obtain ⟨k', hA', hst', hk', hss', -, -, c35, c36, c37⟩ := hL2.reads
  clear hA' hk' hss' hst' c36 c37
  have hlt2 := hL2.lt
  obtain ⟨c39, c40⟩ := hL2.c3940
  have z39 := hL2.fz 39
  have z40 := hL2.fz 40
  have H2 := Lib.hid hL2
  have X2 := Lib.hid (HX.out.fr (k' := k) F2.out (Nat.le_refl _))
  have S2 := Lib.hid (ST.out _ _ _ _ _ _ _ hL2)
  clear hL2
  rw [HR1.out] at S2
  rw [g] at c35
  clear g
  go_wp2_with fail
  refine (S2.out).mono ?_
  rintro e w3 ⟨rfl, h3, f3⟩
  obtain ⟨-, -, -, -, -, -, -, d35, -, -⟩ := h3.reads
  have H3 := Lib.hid h3
  have F3 := Lib.hid (F2.out.trans f3)
  have V3 := Lib.hid (vescI b P s r1 k 0 0 0 w3 h3)
  rw [HY1.out] at V3
  have d39 := h3.c3940.1
  have y39 := h3.fz 39
  have hlt3 := h3.lt
  clear h3 f3 c35 c39 c40 z39 z40
  cases x
  · cases y
    · rw [if_neg (by decide)] at NB
      go_wp2_with (go_at_call 96; refine (N.out _).mono ?_; rintro e w' ⟨rfl, rfl⟩)
      refine (V3.out).mono ?_
      rintro e w4 ⟨rfl, hb4⟩
      have e39 := (hb4.cell (p := ⟨b, 39, none⟩) hlt3).trans d39
      have x39 := (hb4.frozen (p := ⟨b, 39, none⟩) hlt3).trans y39
      have H4 := Lib.hid (H3.out.fr hb4)
      have F4 := Lib.hid (F3.out.trans (Fr.of hb4))
      clear hb4 d39 y39
      go_wp2_with fail
      exact FIN.out _ 0 0 _ _ _ NB.out (by decide) (by decide) (QQ.out _ _ _ _ _ (H4.out.set39 11) (F4.out.trans (Fr.setCell _ 39 _)))
    · rw [if_pos (by decide)] at NB
      go_wp2_with (go_at_call 96; refine (N.out _).mono ?_; rintro e w' ⟨rfl, rfl⟩)
      refine (V3.out).mono ?_
      rintro e w4 ⟨rfl, hb4⟩
      have e39 := (hb4.cell (p := ⟨b, 39, none⟩) hlt3).trans d39
      have x39 := (hb4.frozen (p := ⟨b, 39, none⟩) hlt3).trans y39
      have H4 := Lib.hid (H3.out.fr hb4)
      have F4 := Lib.hid (F3.out.trans (Fr.of hb4))
      clear hb4 d39 y39
      have W4 := Lib.hid (wouldI b P s r1 k 0 28 0 _ (H4.out.set39 28))
      obtain ⟨y, hy⟩ : ∃ y, wouldB r1 = y := ⟨_, rfl⟩
      rw [hy] at W4
      clear hy
      go_wp2_with fail
      refine (W4.out).mono ?_
      rintro e w5 ⟨rfl, hb5⟩
      have H5 := Lib.hid ((H4.out.set39 28).fr hb5)
      have F5 := Lib.hid ((F4.out.trans (Fr.setCell _ 39 _)).trans (Fr.of hb5))
      have p40 := H5.out.c3940.2
      have q40 := H5.out.fz 40
      clear hb5
      cases y
      · have N5 := Lib.hid (nameI b P s _ r1 k 0 28 0 w5 H5.out A1.out)
        go_wp2_with fail
        refine (N5.out).mono ?_
        rintro e w6 ⟨nm, rfl, -, h6, f6⟩
        have H6 := Lib.hid h6
        have F6 := Lib.hid (F5.out.trans f6)
        clear h6 f6
        go_wp2_with fail
        exact FIN.out _ 0 0 _ _ _ NB.out (by decide) (by decide) (QQ.out _ _ _ _ _ H6.out F6.out)
      · have N5 := Lib.hid (nameI b P s _ r1 k 0 28 1 _ (H5.out.set40 1) A1.out)
        go_wp2_with fail
        refine (N5.out).mono ?_
        rintro e w6 ⟨nm, rfl, -, h6, f6⟩
        have H6 := Lib.hid h6
        have F6 := Lib.hid ((F5.out.trans (Fr.setCell _ 40 _)).trans f6)
        clear h6 f6
        go_wp2_with fail
        exact FIN.out _ 0 1 _ _ _ NB.out (by decide) (by decide) (QQ.out _ _ _ _ _ H6.out F6.out)
  · rw [Bool.true_or, if_pos rfl] at NB
    clear V3
    go_wp2_with (go_at_call 96; refine (N.out _).mono ?_; rintro e w' ⟨rfl, rfl⟩)
    have H4 := Lib.hid H3.out
    have F4 := Lib.hid F3.out
    have W4 := Lib.hid (wouldI b P s r1 k 0 28 0 _ (H4.out.set39 28))
    obtain ⟨y, hy⟩ : ∃ y, wouldB r1 = y := ⟨_, rfl⟩
    rw [hy] at W4
    clear hy
    go_wp2_with fail
    refine (W4.out).mono ?_
    rintro e w5 ⟨rfl, hb5⟩
    have H5 := Lib.hid ((H4.out.set39 28).fr hb5)
    have F5 := Lib.hid ((F4.out.trans (Fr.setCell _ 39 _)).trans (Fr.of hb5))
    have p40 := H5.out.c3940.2
    have q40 := H5.out.fz 40
    clear hb5
    cases y
    · have N5 := Lib.hid (nameI b P s _ r1 k 0 28 0 w5 H5.out A1.out)
      go_wp2_with fail
      refine (N5.out).mono ?_
      rintro e w6 ⟨nm, rfl, -, h6, f6⟩
      have H6 := Lib.hid h6
      have F6 := Lib.hid (F5.out.trans f6)
      clear h6 f6
      go_wp2_with fail
      exact FIN.out _ 0 0 _ _ _ NB.out (by decide) (by decide) (QQ.out _ _ _ _ _ H6.out F6.out)
    · have N5 := Lib.hid (nameI b P s _ r1 k 0 28 1 _ (H5.out.set40 1) A1.out)
      go_wp2_with fail
      refine (N5.out).mono ?_
      rintro e w6 ⟨nm, rfl, -, h6, f6⟩
      have H6 := Lib.hid h6
      have F6 := Lib.hid ((F5.out.trans (Fr.setCell _ 40 _)).trans f6)
      clear h6 f6
      go_wp2_with fail
      exact FIN.out _ 0 1 _ _ _ NB.out (by decide) (by decide) (QQ.out _ _ _ _ _ H6.out F6.out)

set_option maxHeartbeats 16000000 in
set_option maxRecDepth 1000000 in
theorem nxAt {b : Nat} {G : LogI} {s : ByteArray} {r : List UInt8} (g : hdB r = 64) : NxW b G s r := by
  intro P st0 k uo0 kd0 fl0 cs S f QN Q0 w h hX hA HR HC
  have ST := Lib.hid (fun P r st uo kd fl w (h : LR b P s r st uo kd fl w) => stepL b P s r st uo kd fl w h)
  have H0 := Lib.hid h
  have HA := Lib.hid hA
  have HX := Lib.hid hX
  have FIN := Lib.hid (show ∀ (kd uo fl : Nat) (R' : List UInt8) (T' : Array Value) (w' : World), nextB r = ([], r, kd, R') → uo ≤ 65535 → fl ≤ 2 → LxP b G s R' k (uo : Int) (kd : Int) (fl : Int) cs S w w' → Q0 .ret ⟨T', []⟩ w' from fun kd uo fl R' a' w' e1 e2 e3 e4 => HR _ _ (nxg_tok hA e1 e2 e3 e4))
  have QQ := Lib.hid (show ∀ (R' : List UInt8) (uo kd fl : Int) (w' : World), LR b P s R' k uo kd fl w' → Fr b w w' → LxP b G s R' k uo kd fl cs S w w' from fun R' uo kd fl w' hL f => LxP.quiet hX hL f (by
    obtain ⟨k', hA', hst', -⟩ := hL.reads
    have := hA'.size
    omega))
  clear h hX hA HR HC
  obtain ⟨r1, hr1⟩ : ∃ r1, tlB r = r1 := ⟨_, rfl⟩
  obtain ⟨y, hy1⟩ : ∃ y, wouldB r1 = y := ⟨_, rfl⟩
  have NB := Lib.hid (show nextB r = if y = true then ([], r, 1, nameR r1) else ([], r, 11, r1) by
    by_cases hh : wouldB (tlB r) = true
    · rw [if_pos (by rw [hr1, hy1] at hh; exact hh), ← hr1]
      exact next_tok (c := 64) g (by decide) (fun e => absurd e (by decide)) (tokB_at g hh)
    · rw [if_neg (by rw [hr1, hy1] at hh; exact hh), ← hr1]
      exact next_tok (c := 64) g (by decide) (fun e => absurd e (by decide)) (tokB_last (c := 64) g (by decide) (by decide) (fun e => absurd e (by decide)) (cntB_no (by rw [g]; decide) (by omega) (by omega) (by omega)) (fun hh => by omega) (wouldB_no (by rw [g]; decide) (by omega) (by omega)) (fun hh => by omega) (fun h2 => hh h2.2)))
  have A1 := Lib.hid (HA.out.tail)
  rw [hr1] at A1
  have HY1 := Lib.hid hy1
  have HR1 := Lib.hid hr1
  clear hy1 hr1
  have hL := H0.out
  obtain ⟨k', hA', hst, hk, hss, -, -, c35, c36, c37⟩ := hL.reads
  obtain rfl := HA.out.unique hA'
  have hkz := HA.out.le
  have E := Lib.hid (fun w => rangeEndI st0 k w hst (by omega))
  have c38 := hL.c38'
  obtain ⟨c39, c40⟩ := hL.c3940
  have hlt := hL.lt
  have z36 := hL.fz 36
  have z37 := hL.fz 37
  have z38 := hL.fz 38
  have z39 := hL.fz 39
  have z40 := hL.fz 40
  clear hL hA' hst hk
  conv => arg 2; whnf
  unfold nxF
  go_wp2_with fail
  refine (E.out _).mono ?_
  rintro e w1 ⟨rfl, hb1⟩
  have d35 := (hb1.cell (p := ⟨b, 35, none⟩) hlt).trans c35
  have d36 := (hb1.cell (p := ⟨b, 36, none⟩) hlt).trans c36
  have d37 := (hb1.cell (p := ⟨b, 37, none⟩) hlt).trans c37
  have d38 := (hb1.cell (p := ⟨b, 38, none⟩) hlt).trans c38
  have d39 := (hb1.cell (p := ⟨b, 39, none⟩) hlt).trans c39
  have d40 := (hb1.cell (p := ⟨b, 40, none⟩) hlt).trans c40
  have y36 := (hb1.frozen (p := ⟨b, 36, none⟩) hlt).trans z36
  have y37 := (hb1.frozen (p := ⟨b, 37, none⟩) hlt).trans z37
  have y38 := (hb1.frozen (p := ⟨b, 38, none⟩) hlt).trans z38
  have y39 := (hb1.frozen (p := ⟨b, 39, none⟩) hlt).trans z39
  have y40 := (hb1.frozen (p := ⟨b, 40, none⟩) hlt).trans z40
  have H1 := Lib.hid (H0.out.fr hb1)
  have F1 := Lib.hid (Fr.of (b := b) hb1)
  clear hb1 c35 c36 c37 c38 c39 c40 z36 z37 z38 z39 z40 H0 E
  go_upto_region 1 with fail
  obtain ⟨w2, hw2⟩ : ∃ x, (((((w1.setCell ⟨b, 36, none⟩ (.int .i32 (k : Int))).setCell ⟨b, 37, none⟩ (.int .i32 0)).setCell ⟨b, 38, none⟩ (.int .u16 0)).setCell ⟨b, 39, none⟩ (.int .u8 0)).setCell ⟨b, 40, none⟩ (.int .u8 0)) = x := ⟨_, rfl⟩
  rw [hw2]
  have hL2 : LR b P s r k 0 0 0 w2 := by rw [← hw2]; exact H1.out.begin HA.out
  have F2 := Lib.hid (show Fr b w w2 by rw [← hw2]; exact F1.out.trans (((((Fr.setCell w1 36 _).trans (Fr.setCell _ 37 _)).trans (Fr.setCell _ 38 _)).trans (Fr.setCell _ 39 _)).trans (Fr.setCell _ 40 _)))
  clear hw2 d35 d36 d37 d38 d39 d40 y36 y37 y38 y39 y40 H1 F1
  obtain ⟨k', hA', hst', hk', hss', -, -, c35, c36, c37⟩ := hL2.reads
  clear hA' hk' hss' hst' c36 c37
  have hlt2 := hL2.lt
  obtain ⟨c39, c40⟩ := hL2.c3940
  have z39 := hL2.fz 39
  have z40 := hL2.fz 40
  have H2 := Lib.hid hL2
  have X2 := Lib.hid (HX.out.fr (k' := k) F2.out (Nat.le_refl _))
  have S2 := Lib.hid (ST.out _ _ _ _ _ _ _ hL2)
  clear hL2
  rw [HR1.out] at S2
  rw [g] at c35
  clear g
  go_wp2_with fail
  refine (S2.out).mono ?_
  rintro e w3 ⟨rfl, h3, f3⟩
  have H3 := Lib.hid h3
  have F3 := Lib.hid (F2.out.trans f3)
  have W3 := Lib.hid (wouldI b P s r1 k 0 0 0 w3 h3)
  rw [HY1.out] at W3
  clear h3 f3 c35 c39 c40 z39 z40
  go_wp2_with fail
  refine (W3.out).mono ?_
  rintro e w4 ⟨rfl, hb4⟩
  have H4 := Lib.hid (H3.out.fr hb4)
  have F4 := Lib.hid (F3.out.trans (Fr.of hb4))
  have d39 := H4.out.c3940.1
  have y39 := H4.out.fz 39
  clear hb4
  cases y
  · rw [if_neg (by decide)] at NB
    go_wp2_with fail
    exact FIN.out _ 0 0 _ _ _ NB.out (by decide) (by decide) (QQ.out _ _ _ _ _ (H4.out.set39 11) (F4.out.trans (Fr.setCell _ 39 _)))
  · rw [if_pos (by decide)] at NB
    have N4 := Lib.hid (nameI b P s _ r1 k 0 0 0 w4 H4.out A1.out)
    clear d39 y39
    go_wp2_with fail
    refine (N4.out).mono ?_
    rintro e w5 ⟨nm, rfl, -, h5, f5⟩
    have d39 := h5.c3940.1
    have y39 := h5.fz 39
    have H5 := Lib.hid h5
    have F5 := Lib.hid (F4.out.trans f5)
    clear h5 f5
    go_wp2_with fail
    exact FIN.out _ 0 0 _ _ _ NB.out (by decide) (by decide) (QQ.out _ _ _ _ _ (H5.out.set39 1) (F5.out.trans (Fr.setCell _ 39 _)))
end Go.Proofs.YtmgkccnfhkcncaaGreatDoor
