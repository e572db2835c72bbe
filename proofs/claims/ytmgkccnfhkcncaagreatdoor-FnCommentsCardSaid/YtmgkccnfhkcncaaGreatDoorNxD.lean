/-
  css_lexer's lexer: next in general, class by class (plus, point, backslash). Printed by wip/gen_nxg.py.
-/
import Derived.Test.YtmgkccnfhkcncaaGreatDoorNxFW
import Derived.Test.YtmgkccnfhkcncaaGreatDoorIdlH
import Derived.Test.YtmgkccnfhkcncaaGreatDoorNmcI
namespace Go.Proofs.YtmgkccnfhkcncaaGreatDoor
open Go.RowKit
attribute [local go_sem ↓] Go.wp_at_zero Go.wp_at_succ

set_option maxHeartbeats 16000000 in
set_option maxRecDepth 1000000 in
theorem nxPlus {b : Nat} {G : LogI} {s : ByteArray} {r : List UInt8} (g : hdB r = 43) : NxW b G s r := by
  intro P st0 k uo0 kd0 fl0 cs S f QN Q0 w h hX hA HR HC
  have ST := Lib.hid (fun P r st uo kd fl w (h : LR b P s r st uo kd fl w) => stepL b P s r st uo kd fl w h)
  have H0 := Lib.hid h
  have HA := Lib.hid hA
  have HX := Lib.hid hX
  have FIN := Lib.hid (show ∀ (kd uo fl : Nat) (R' : List UInt8) (T' : Array Value) (w' : World), nextB r = ([], r, kd, R') → uo ≤ 65535 → fl ≤ 2 → LxP b G s R' k (uo : Int) (kd : Int) (fl : Int) cs S w w' → Q0 .ret ⟨T', []⟩ w' from fun kd uo fl R' a' w' e1 e2 e3 e4 => HR _ _ (nxg_tok hA e1 e2 e3 e4))
  have QQ := Lib.hid (show ∀ (R' : List UInt8) (uo kd fl : Int) (w' : World), LR b P s R' k uo kd fl w' → Fr b w w' → LxP b G s R' k uo kd fl cs S w w' from fun R' uo kd fl w' hL f => LxP.quiet hX hL f (by
    obtain ⟨k', hA', hst', -⟩ := hL.reads
    have := hA'.size
    omega))
  clear h hX hA HR HC
  obtain ⟨y, hy⟩ : ∃ y, cntB r = y := ⟨_, rfl⟩
  have NBT := Lib.hid (show y = true → nextB r = ([], r, (numericB r).1, (numericB r).2.2) from fun e => next_tok (c := 43) g (by decide) (fun e => absurd e (by decide)) (tokB_num (by rw [hy, e])))
  have NBF := Lib.hid (show y = false → nextB r = ([], r, 23, tlB r) from fun e => next_tok (c := 43) g (by decide) (fun e => absurd e (by decide)) (tokB_last (c := 43) g (by decide) (by decide) (fun e => absurd e (by decide)) (by rw [hy, e]) (fun hh => by omega) (wouldB_no (by rw [g]; decide) (by omega) (by omega)) (fun hh => by omega) (fun hh => by omega)))
  have HY := Lib.hid hy
  clear hy
  have hL := H0.out
  obtain ⟨k', hA', hst, hk, hss, -, -, c35, c36, c37⟩ := hL.reads
  obtain rfl := HA.out.unique hA'
  have hkz := HA.out.le
  have E := Lib.hid (fun w => rangeEndI st0 k w hst (by omega))
  have c38 := hL.c38'
  obtain ⟨c39, c40⟩ := hL.c3940
  have hlt := hL.lt
  have z36 := hL.fz 36
  have z37 := hL.fz 37
  have z38 := hL.fz 38
  have z39 := hL.fz 39
  have z40 := hL.fz 40
  clear hL hA' hst hk
  conv => arg 2; whnf
  unfold nxF
  go_wp2_with fail
  refine (E.out _).mono ?_
  rintro e w1 ⟨rfl, hb1⟩
  have d35 := (hb1.cell (p := ⟨b, 35, none⟩) hlt).trans c35
  have d36 := (hb1.cell (p := ⟨b, 36, none⟩) hlt).trans c36
  have d37 := (hb1.cell (p := ⟨b, 37, none⟩) hlt).trans c37
  have d38 := (hb1.cell (p := ⟨b, 38, none⟩) hlt).trans c38
  have d39 := (hb1.cell (p := ⟨b, 39, none⟩) hlt).trans c39
  have d40 := (hb1.cell (p := ⟨b, 40, none⟩) hlt).trans c40
  have y36 := (hb1.frozen (p := ⟨b, 36, none⟩) hlt).trans z36
  have y37 := (hb1.frozen (p := ⟨b, 37, none⟩) hlt).trans z37
  have y38 := (hb1.frozen (p := ⟨b, 38, none⟩) hlt).trans z38
  have y39 := (hb1.frozen (p := ⟨b, 39, none⟩) hlt).trans z39
  have y40 := (hb1.frozen (p := ⟨b, 40, none⟩) hlt).trans z40
  have H1 := Lib.hid (H0.out.fr hb1)
  have F1 := Lib.hid (Fr.of (b := b) hb1)
  clear hb1 c35 c36 c37 c38 c39 c40 z36 z37 z38 z39 z40 H0 E
  go_upto_region 1 with fail
  obtain ⟨w2, hw2⟩ : ∃ x, (((((w1.setCell ⟨b, 36, none⟩ (.int .i32 (k : Int))).setCell ⟨b, 37, none⟩ (.int .i32 0)).setCell ⟨b, 38, none⟩ (.int .u16 0)).setCell ⟨b, 39, none⟩ (.int .u8 0)).setCell ⟨b, 40, none⟩ (.int .u8 0)) = x := ⟨_, rfl⟩
  rw [hw2]
  have hL2 : LR b P s r k 0 0 0 w2 := by rw [← hw2]; exact H1.out.begin HA.out
  have F2 := Lib.hid (show Fr b w w2 by rw [← hw2]; exact F1.out.trans (((((Fr.setCell w1 36 _).trans (Fr.setCell _ 37 _)).trans (Fr.setCell _ 38 _)).trans (Fr.setCell _ 39 _)).trans (Fr.setCell _ 40 _)))
  clear hw2 d35 d36 d37 d38 d39 d40 y36 y37 y38 y39 y40 H1 F1
  obtain ⟨k', hA', hst', hk', hss', -, -, c35, c36, c37⟩ := hL2.reads
  clear hA' hk' hss' hst' c36 c37
  have hlt2 := hL2.lt
  obtain ⟨c39, c40⟩ := hL2.c3940
  have z39 := hL2.fz 39
  have z40 := hL2.fz 40
  have H2 := Lib.hid hL2
  have X2 := Lib.hid (HX.out.fr (k' := k) F2.out (Nat.le_refl _))
  have S2 := Lib.hid (ST.out _ _ _ _ _ _ _ hL2)
  clear hL2
  have C := Lib.hid (numericI b P s r k 0 0 0 w2 H2.out HA.out)
  have CN := Lib.hid (cntI b P s r k 0 0 0 w2 H2.out)
  rw [HY.out] at CN
  rw [g] at c35
  clear g
  cases y
  · have NB := Lib.hid (NBF.out rfl)
    go_wp2_with fail
    refine (CN.out).mono ?_
    rintro e w' ⟨rfl, rfl⟩
    go_wp2_with fail
    refine (S2.out).mono ?_
    rintro e w3 ⟨rfl, h3, f3⟩
    have d39 := h3.c3940.1
    have y39 := h3.fz 39
    have H3 := Lib.hid h3
    have F3 := Lib.hid (F2.out.trans f3)
    clear h3 f3 c39 c40 z39 z40
    go_wp2_with fail
    exact FIN.out 23 0 0 _ _ _ NB.out (by decide) (by decide) (QQ.out _ _ _ _ _ (H3.out.set39 23) (F3.out.trans (Fr.setCell _ 39 _)))
  · have NB := Lib.hid (NBT.out rfl)
    go_wp2_with fail
    refine (CN.out).mono ?_
    rintro e w' ⟨rfl, rfl⟩
    go_wp2_with fail
    refine (C.out).mono ?_
    rintro e w3 ⟨rfl, h3, f3⟩
    have d39 := h3.c3940.1
    have y39 := h3.fz 39
    have H3 := Lib.hid h3
    have F3 := Lib.hid (F2.out.trans f3)
    clear h3 f3
    go_wp2_with fail
    exact nx_numF NB.out (FIN.out _) (QQ.out _ _ _ _ _ (H3.out.set39 _) (F3.out.trans (Fr.setCell _ 39 _)))

set_option maxHeartbeats 16000000 in
set_option maxRecDepth 1000000 in
theorem nxDot {b : Nat} {G : LogI} {s : ByteArray} {r : List UInt8} (g : hdB r = 46) : NxW b G s r := by
  intro P st0 k uo0 kd0 fl0 cs S f QN Q0 w h hX hA HR HC
  have ST := Lib.hid (fun P r st uo kd fl w (h : LR b P s r st uo kd fl w) => stepL b P s r st uo kd fl w h)
  have H0 := Lib.hid h
  have HA := Lib.hid hA
  have HX := Lib.hid hX
  have FIN := Lib.hid (show ∀ (kd uo fl : Nat) (R' : List UInt8) (T' : Array Value) (w' : World), nextB r = ([], r, kd, R') → uo ≤ 65535 → fl ≤ 2 → LxP b G s R' k (uo : Int) (kd : Int) (fl : Int) cs S w w' → Q0 .ret ⟨T', []⟩ w' from fun kd uo fl R' a' w' e1 e2 e3 e4 => HR _ _ (nxg_tok hA e1 e2 e3 e4))
  have QQ := Lib.hid (show ∀ (R' : List UInt8) (uo kd fl : Int) (w' : World), LR b P s R' k uo kd fl w' → Fr b w w' → LxP b G s R' k uo kd fl cs S w w' from fun R' uo kd fl w' hL f => LxP.quiet hX hL f (by
    obtain ⟨k', hA', hst', -⟩ := hL.reads
    have := hA'.size
    omega))
  clear h hX hA HR HC
  obtain ⟨y, hy⟩ : ∃ y, cntB r = y := ⟨_, rfl⟩
  have NBT := Lib.hid (show y = true → nextB r = ([], r, (numericB r).1, (numericB r).2.2) from fun e => next_tok (c := 46) g (by decide) (fun e => absurd e (by decide)) (tokB_num (by rw [hy, e])))
  have NBF := Lib.hid (show y = false → nextB r = ([], r, 17, tlB r) from fun e => next_tok (c := 46) g (by decide) (fun e => absurd e (by decide)) (tokB_last (c := 46) g (by decide) (by decide) (fun e => absurd e (by decide)) (by rw [hy, e]) (fun hh => by omega) (wouldB_no (by rw [g]; decide) (by omega) (by omega)) (fun hh => by omega) (fun hh => by omega)))
  have HY := Lib.hid hy
  clear hy
  have hL := H0.out
  obtain ⟨k', hA', hst, hk, hss, -, -, c35, c36, c37⟩ := hL.reads
  obtain rfl := HA.out.unique hA'
  have hkz := HA.out.le
  have E := Lib.hid (fun w => rangeEndI st0 k w hst (by omega))
  have c38 := hL.c38'
  obtain ⟨c39, c40⟩ := hL.c3940
  have hlt := hL.lt
  have z36 := hL.fz 36
  have z37 := hL.fz 37
  have z38 := hL.fz 38
  have z39 := hL.fz 39
  have z40 := hL.fz 40
  clear hL hA' hst hk
  conv => arg 2; whnf
  unfold nxF
  go_wp2_with fail
  refine (E.out _).mono ?_
  rintro e w1 ⟨rfl, hb1⟩
  have d35 := (hb1.cell (p := ⟨b, 35, none⟩) hlt).trans c35
  have d36 := (hb1.cell (p := ⟨b, 36, none⟩) hlt).trans c36
  have d37 := (hb1.cell (p := ⟨b, 37, none⟩) hlt).trans c37
  have d38 := (hb1.cell (p := ⟨b, 38, none⟩) hlt).trans c38
  have d39 := (hb1.cell (p := ⟨b, 39, none⟩) hlt).trans c39
  have d40 := (hb1.cell (p := ⟨b, 40, none⟩) hlt).trans c40
  have y36 := (hb1.frozen (p := ⟨b, 36, none⟩) hlt).trans z36
  have y37 := (hb1.frozen (p := ⟨b, 37, none⟩) hlt).trans z37
  have y38 := (hb1.frozen (p := ⟨b, 38, none⟩) hlt).trans z38
  have y39 := (hb1.frozen (p := ⟨b, 39, none⟩) hlt).trans z39
  have y40 := (hb1.frozen (p := ⟨b, 40, none⟩) hlt).trans z40
  have H1 := Lib.hid (H0.out.fr hb1)
  have F1 := Lib.hid (Fr.of (b := b) hb1)
  clear hb1 c35 c36 c37 c38 c39 c40 z36 z37 z38 z39 z40 H0 E
  go_upto_region 1 with fail
  obtain ⟨w2, hw2⟩ : ∃ x, (((((w1.setCell ⟨b, 36, none⟩ (.int .i32 (k : Int))).setCell ⟨b, 37, none⟩ (.int .i32 0)).setCell ⟨b, 38, none⟩ (.int .u16 0)).setCell ⟨b, 39, none⟩ (.int .u8 0)).setCell ⟨b, 40, none⟩ (.int .u8 0)) = x := ⟨_, rfl⟩
  rw [hw2]
  have hL2 : LR b P s r k 0 0 0 w2 := by rw [← hw2]; exact H1.out.begin HA.out
  have F2 := Lib.hid (show Fr b w w2 by rw [← hw2]; exact F1.out.trans (((((Fr.setCell w1 36 _).trans (Fr.setCell _ 37 _)).trans (Fr.setCell _ 38 _)).trans (Fr.setCell _ 39 _)).trans (Fr.setCell _ 40 _)))
  clear hw2 d35 d36 d37 d38 d39 d40 y36 y37 y38 y39 y40 H1 F1
  obtain ⟨k', hA', hst', hk', hss', -, -, c35, c36, c37⟩ := hL2.reads
  clear hA' hk' hss' hst' c36 c37
  have hlt2 := hL2.lt
  obtain ⟨c39, c40⟩ := hL2.c3940
  have z39 := hL2.fz 39
  have z40 := hL2.fz 40
  have H2 := Lib.hid hL2
  have X2 := Lib.hid (HX.out.fr (k' := k) F2.out (Nat.le_refl _))
  have S2 := Lib.hid (ST.out _ _ _ _ _ _ _ hL2)
  clear hL2
  have C := Lib.hid (numericI b P s r k 0 0 0 w2 H2.out HA.out)
  have CN := Lib.hid (cntI b P s r k 0 0 0 w2 H2.out)
  rw [HY.out] at CN
  rw [g] at c35
  clear g
  cases y
  · have NB := Lib.hid (NBF.out rfl)
    go_wp2_with fail
    refine (CN.out).mono ?_
    rintro e w' ⟨rfl, rfl⟩
    go_wp2_with fail
    refine (S2.out).mono ?_
    rintro e w3 ⟨rfl, h3, f3⟩
    have d39 := h3.c3940.1
    have y39 := h3.fz 39
    have H3 := Lib.hid h3
    have F3 := Lib.hid (F2.out.trans f3)
    clear h3 f3 c39 c40 z39 z40
    go_wp2_with fail
    exact FIN.out 17 0 0 _ _ _ NB.out (by decide) (by decide) (QQ.out _ _ _ _ _ (H3.out.set39 17) (F3.out.trans (Fr.setCell _ 39 _)))
  · have NB := Lib.hid (NBT.out rfl)
    go_wp2_with fail
    refine (CN.out).mono ?_
    rintro e w' ⟨rfl, rfl⟩
    go_wp2_with fail
    refine (C.out).mono ?_
    rintro e w3 ⟨rfl, h3, f3⟩
    have d39 := h3.c3940.1
    have y39 := h3.fz 39
    have H3 := Lib.hid h3
    have F3 := Lib.hid (F2.out.trans f3)
    clear h3 f3
    go_wp2_with fail
    exact nx_numF NB.out (FIN.out _) (QQ.out _ _ _ _ _ (H3.out.set39 _) (F3.out.trans (Fr.setCell _ 39 _)))

set_option maxHeartbeats 16000000 in
set_option maxRecDepth 1000000 in
theorem nxBs {b : Nat} {G : LogI} {s : ByteArray} {r : List UInt8} (g : hdB r = 92) : NxW b G s r := by
  intro P st0 k uo0 kd0 fl0 cs S f QN Q0 w h hX hA HR HC
  have ST := Lib.hid (fun P r st uo kd fl w (h : LR b P s r st uo kd fl w) => stepL b P s r st uo kd fl w h)
  have H0 := Lib.hid h
  have HA := Lib.hid hA
  have HX := Lib.hid hX
  have FIN := Lib.hid (show ∀ (kd uo fl : Nat) (R' : List UInt8) (T' : Array Value) (w' : World), nextB r = ([], r, kd, R') → uo ≤ 65535 → fl ≤ 2 → LxP b G s R' k (uo : Int) (kd : Int) (fl : Int) cs S w w' → Q0 .ret ⟨T', []⟩ w' from fun kd uo fl R' a' w' e1 e2 e3 e4 => HR _ _ (nxg_tok hA e1 e2 e3 e4))
  have QQ := Lib.hid (show ∀ (R' : List UInt8) (uo kd fl : Int) (w' : World), LR b P s R' k uo kd fl w' → Fr b w w' → LxP b G s R' k uo kd fl cs S w w' from fun R' uo kd fl w' hL f => LxP.quiet hX hL f (by
    obtain ⟨k', hA', hst', -⟩ := hL.reads
    have := hA'.size
    omega))
  clear h hX hA HR HC
  obtain ⟨y, hy⟩ : ∃ y, vescB r = y := ⟨_, rfl⟩
  have hc0 : cntB r = false := cntB_no (by rw [g]; decide) (by omega) (by omega) (by omega)
  have NBT := Lib.hid (show y = true → nextB r = ([], r, (identB r).1, (identB r).2.2) from fun e => next_tok (c := 92) g (by decide) (fun e => absurd e (by decide)) (tokB_ident (by rw [wouldB_bs g, hy, e]) hc0 (fun h => by omega)))
  have NBF := Lib.hid (show y = false → nextB r = ([], r, 11, tlB r) from fun e => next_tok (c := 92) g (by decide) (fun e => absurd e (by decide)) (tokB_last (c := 92) g (by decide) (by decide) (fun e => absurd e (by decide)) hc0 (fun hh => by omega) (by rw [wouldB_bs g, hy, e]) (fun hh => by omega) (fun hh => by omega)))
  have HY := Lib.hid hy
  have BK := Lib.hid (bd_head HA.out (by rw [g]; decide))
  have TL := Lib.hid (HA.out.tail)
  have TW := Lib.hid (show widB r = 1 by obtain ⟨x, t, -, -, -, h⟩ := hdB_low (c := 92) g (by decide); exact h)
  clear hy hc0
  have hL := H0.out
  obtain ⟨k', hA', hst, hk, hss, -, -, c35, c36, c37⟩ := hL.reads
  obtain rfl := HA.out.unique hA'
  have hkz := HA.out.le
  have E := Lib.hid (fun w => rangeEndI st0 k w hst (by omega))
  have c38 := hL.c38'
  obtain ⟨c39, c40⟩ := hL.c3940
  have hlt := hL.lt
  have z36 := hL.fz 36
  have z37 := hL.fz 37
  have z38 := hL.fz 38
  have z39 := hL.fz 39
  have z40 := hL.fz 40
  clear hL hA' hst hk
  conv => arg 2; whnf
  unfold nxF
  go_wp2_with fail
  refine (E.out _).mono ?_
  rintro e w1 ⟨rfl, hb1⟩
  have d35 := (hb1.cell (p := ⟨b, 35, none⟩) hlt).trans c35
  have d36 := (hb1.cell (p := ⟨b, 36, none⟩) hlt).trans c36
  have d37 := (hb1.cell (p := ⟨b, 37, none⟩) hlt).trans c37
  have d38 := (hb1.cell (p := ⟨b, 38, none⟩) hlt).trans c38
  have d39 := (hb1.cell (p := ⟨b, 39, none⟩) hlt).trans c39
  have d40 := (hb1.cell (p := ⟨b, 40, none⟩) hlt).trans c40
  have y36 := (hb1.frozen (p := ⟨b, 36, none⟩) hlt).trans z36
  have y37 := (hb1.frozen (p := ⟨b, 37, none⟩) hlt).trans z37
  have y38 := (hb1.frozen (p := ⟨b, 38, none⟩) hlt).trans z38
  have y39 := (hb1.frozen (p := ⟨b, 39, none⟩) hlt).trans z39
  have y40 := (hb1.frozen (p := ⟨b, 40, none⟩) hlt).trans z40
  have H1 := Lib.hid (H0.out.fr hb1)
  have F1 := Lib.hid (Fr.of (b := b) hb1)
  clear hb1 c35 c36 c37 c38 c39 c40 z36 z37 z38 z39 z40 H0 E
  go_upto_region 1 with fail
  obtain ⟨w2, hw2⟩ : ∃ x, (((((w1.setCell ⟨b, 36, none⟩ (.int .i32 (k : Int))).setCell ⟨b, 37, none⟩ (.int .i32 0)).setCell ⟨b, 38, none⟩ (.int .u16 0)).setCell ⟨b, 39, none⟩ (.int .u8 0)).setCell ⟨b, 40, none⟩ (.int .u8 0)) = x := ⟨_, rfl⟩
  rw [hw2]
  have hL2 : LR b P s r k 0 0 0 w2 := by rw [← hw2]; exact H1.out.begin HA.out
  have F2 := Lib.hid (show Fr b w w2 by rw [← hw2]; exact F1.out.trans (((((Fr.setCell w1 36 _).trans (Fr.setCell _ 37 _)).trans (Fr.setCell _ 38 _)).trans (Fr.setCell _ 39 _)).trans (Fr.setCell _ 40 _)))
  clear hw2 d35 d36 d37 d38 d39 d40 y36 y37 y38 y39 y40 H1 F1
  obtain ⟨k', hA', hst', hk', hss', -, -, c35, c36, c37⟩ := hL2.reads
  clear hA' hk' hss' hst' c36 c37
  have hlt2 := hL2.lt
  obtain ⟨c39, c40⟩ := hL2.c3940
  have z39 := hL2.fz 39
  have z40 := hL2.fz 40
  have H2 := Lib.hid hL2
  have X2 := Lib.hid (HX.out.fr (k' := k) F2.out (Nat.le_refl _))
  have S2 := Lib.hid (ST.out _ _ _ _ _ _ _ hL2)
  clear hL2
  have C := Lib.hid (fun w h X => idlG b G P s r k k 0 0 0 cs S _ _ _ w h X (Nat.le_refl _) HA.out (show identB r = ((identB r).1, (identB r).2.1, (identB r).2.2) from rfl))
  have V := Lib.hid (vescI b P s r k 0 0 0 w2 H2.out)
  rw [HY.out] at V
  rw [g] at c35
  clear g
  cases y
  · have NB := Lib.hid (NBF.out rfl)
    go_wp2_with fail
    refine (V.out).mono ?_
    rintro e w3 ⟨rfl, hb3⟩
    have S3 := Lib.hid (ST.out _ _ _ _ _ _ _ (H2.out.fr hb3))
    have F3 := Lib.hid (F2.out.trans (Fr.of hb3))
    clear hb3 c35 c39 c40 z39 z40
    go_wp2_with fail
    refine (S3.out).mono ?_
    rintro e w4 ⟨rfl, h4, f4⟩
    have H4 := Lib.hid h4
    have F4 := Lib.hid (F3.out.trans f4)
    have hkA := TL.out
    rw [TW.out] at hkA
    have KPZ := Lib.hid (show s.size - (tlB r).length = k + 1 by have := hkA.size; omega)
    have X4 := Lib.hid (HX.out.fr (k' := k) F4.out (Nat.le_refl _))
    obtain ⟨i1, i2, i3, i4, i5, i6⟩ := X4.out.c16 h4
    obtain ⟨i7, i8⟩ := h4.c3637 hkA
    have TE := Lib.hid (fun (tx : ByteArray) w2 (hL2 : LR b P s (tlB r) k 0 0 0 w2) (hX2 : LxS b G s k cs S P w2) => tellE b G s (tlB r) k k k (k + 1) 0 0 0 (((k + 1 : Nat) : Int) - (k : Int)) tx cs S P w2 hL2 hX2 (by omega) (Nat.le_refl _) (by omega) hkA.le BK.out (by omega) (by omega))
    unfold LogI.val logV at TE
    have HKA := Lib.hid hkA
    clear hkA h4 f4
    go_upto_region 118 with fail
    go_region_held3 (fun w' => w'.cell? ⟨b, 1, none⟩ = some (.func (.func 71) #[] #[.pointer (some ⟨G.gk, 0, none⟩), .pointer (some ⟨G.gm, 0, none⟩), .pointer (some ⟨G.gh, 0, none⟩), .pointer (some ⟨G.gs, 0, none⟩)]) ∧ w'.cell? ⟨b, 2, none⟩ = some (.func G.g2 #[] G.c2) ∧ w'.cell? ⟨b, 3, none⟩ = some (.func G.g3 #[] G.c3) ∧ w'.cell? ⟨b, 4, none⟩ = some (.func G.g4 #[] G.c4) ∧ w'.cell? ⟨b, 5, none⟩ = some (.int .i8 3) ∧ w'.cell? ⟨b, 6, none⟩ = some (.map none) ∧ w'.cell? ⟨b, 36, none⟩ = some (.int .i32 (k : Int)) ∧ w'.cell? ⟨b, 37, none⟩ = some (.int .i32 (((k + 1 : Nat) : Int) - (k : Int)))) (go_keep)
      ((go_at_call 103; refine (TE.out _ _ (H4.out.fr (Below.drew (Below.refl _ _))) (X4.out.fr (Fr.of (Below.drew (Below.refl _ _))) (Nat.le_refl _))).mono ?_; rintro e w5 ⟨rfl, P5, S5, q1, q2, q3, q4, q5⟩; obtain ⟨i1, i2, i3, i4, i5, i6⟩ := q2.c16 q1; obtain ⟨i7, i8⟩ := q1.c3637 HKA.out; have QQ5 := Lib.hid (show LxP b G s (tlB r) k 0 0 0 cs S w w5 from ⟨P5, S5, q1, by rw [KPZ.out]; exact q2, ((F4.out.trans (Fr.of (Below.drew (Below.refl _ _)))).fx HX.out.own).trans q4 (fun _ hi => .inl hi), fun i hi => (q5 i hi).elim .inl fun h => .inr (Nat.le_trans F4.out.size h)⟩); have d39 := q1.c3940.1; have y39 := q1.fz 39; clear q1 q2 q3 q4 q5))
    go_wp2_with fail
    exact FIN.out _ 0 0 _ _ _ NB.out (by decide) (by decide) (QQ5.out.set39 11)
  · have NB := Lib.hid (NBT.out rfl)
    go_wp2_with fail
    refine (V.out).mono ?_
    rintro e w3 ⟨rfl, hb3⟩
    have H3 := Lib.hid (H2.out.fr hb3)
    have F3 := Lib.hid (F2.out.trans (Fr.of hb3))
    have X3 := Lib.hid (X2.out.fr (k' := k) (Fr.of hb3) (Nat.le_refl _))
    clear hb3 c35 c39 c40 z39 z40
    go_wp2_with fail
    refine (C.out _ H3.out X3.out).mono ?_
    rintro e w9 ⟨rfl, h9⟩
    have d39 := h9.c39
    have y39 := h9.z39
    have H9 := Lib.hid (LxP.trans (F3.out.fx HX.out.own) (fun _ hi => .inl hi) h9)
    clear h9
    go_wp2_with fail
    exact FIN.out _ 0 0 _ _ _ NB.out (by decide) (by decide) (H9.out.set39 _)
end Go.Proofs.YtmgkccnfhkcncaaGreatDoor
