/-
  css_lexer's lexer: next in general, class by class (hyphen, less-than). Printed by wip/gen_nxg.py.
-/
import Derived.Test.YtmgkccnfhkcncaaGreatDoorNxFW
import Derived.Test.YtmgkccnfhkcncaaGreatDoorIdlH
import Derived.Test.YtmgkccnfhkcncaaGreatDoorNmcI
import Derived.Deep.QuietTactic
import Derived.BigQuiet
import Derived.IntWalk
namespace Go.Proofs.YtmgkccnfhkcncaaGreatDoor
open Go.RowKit
attribute [local go_sem ↓] Go.wp_at_zero Go.wp_at_succ

theorem next_tokX {r X : List UInt8} {c n : Nat} (h : hdB r = (c : Int)) (h1 : c ≠ 10 ∧ c ≠ 13 ∧ c ≠ 12 ∧ c ≠ 9 ∧ c ≠ 32) (h2 : c = 47 → hdB (tlB r) ≠ 42) (hx : tokB r = (n, X)) : nextB r = ([], r, n, X) := next_tok h h1 h2 hx
theorem hd_low {x : UInt8} {t : List UInt8} {c : Nat} (hc : c < 128) : hdB (x :: t) = (c : Int) ↔ x.toNat = c := by
  by_cases hx : x.toNat < 128
  · rw [hdB_ascii hx]; omega
  · have := hdB_high (t := t) (by omega : 128 ≤ x.toNat)
    constructor <;> intro h <;> omega
theorem toNat_eq {x : UInt8} {c : Nat} (h : x.toNat = c) : x = UInt8.ofNat c := by
  subst h
  simp
theorem arrow_len {t : List UInt8} (h : hdB t = 45 ∧ hdB (tlB t) = 62) : 2 ≤ t.length := by
  have h1 := tl_lt h.1 (by decide)
  have h2 := tl_lt h.2 (by decide)
  omega
theorem cdo_len {t : List UInt8} (h : hdB t = 33 ∧ hdB (tlB t) = 45 ∧ hdB (tlB (tlB t)) = 45) : 3 ≤ t.length := by
  have h1 := tl_lt h.1 (by decide)
  have h2 := tl_lt h.2.1 (by decide)
  have h3 := tl_lt h.2.2 (by decide)
  omega
theorem arrow_is {s : ByteArray} {K : Nat} {t : List UInt8} (hA : AtB s K t) : (((s.extract K (K + 2)).toList) == [45, 62]) = decide (hdB t = 45 ∧ hdB (tlB t) = 62) := by
  rw [ByteArray.toList_eq, Lib.extract_data, hA.drop, show K + 2 - K = 2 by omega, Bool.eq_iff_iff, beq_iff_eq, decide_eq_true_iff]
  constructor
  · intro e
    match t, e with
    | x :: y :: u, e =>
      simp only [List.take_succ_cons, List.take_zero, List.cons.injEq] at e
      obtain ⟨rfl, rfl, _⟩ := e
      rw [tlB_ascii (by decide), hdB_ascii (by decide), hdB_ascii (by decide)]
      decide
  · intro h
    obtain ⟨x, t1, rfl, hx, ht, -⟩ := hdB_low (c := 45) h.1 (by decide)
    have h2 := h.2
    rw [ht] at h2
    obtain ⟨y, t2, rfl, hy, -, -⟩ := hdB_low (c := 62) h2 (by decide)
    rw [toNat_eq hx, toNat_eq hy, List.take_succ_cons, List.take_succ_cons, List.take_zero]
    decide
theorem cdo_is {s : ByteArray} {K : Nat} {t : List UInt8} (hA : AtB s K t) : (((s.extract K (K + 3)).toList) == [33, 45, 45]) = decide (hdB t = 33 ∧ hdB (tlB t) = 45 ∧ hdB (tlB (tlB t)) = 45) := by
  rw [ByteArray.toList_eq, Lib.extract_data, hA.drop, show K + 3 - K = 3 by omega, Bool.eq_iff_iff, beq_iff_eq, decide_eq_true_iff]
  constructor
  · intro e
    match t, e with
    | x :: y :: v :: u, e =>
      simp only [List.take_succ_cons, List.take_zero, List.cons.injEq] at e
      obtain ⟨rfl, rfl, rfl, _⟩ := e
      rw [tlB_ascii (by decide), tlB_ascii (by decide), hdB_ascii (by decide), hdB_ascii (by decide), hdB_ascii (by decide)]
      decide
  · intro h
    obtain ⟨x, t1, rfl, hx, ht, -⟩ := hdB_low (c := 33) h.1 (by decide)
    have h2 := h.2.1
    have h3 := h.2.2
    rw [ht] at h2 h3
    obtain ⟨y, t2, rfl, hy, ht2, -⟩ := hdB_low (c := 45) h2 (by decide)
    rw [ht2] at h3
    obtain ⟨v, t3, rfl, hv, -, -⟩ := hdB_low (c := 45) h3 (by decide)
    rw [toNat_eq hx, toNat_eq hy, toNat_eq hv, List.take_succ_cons, List.take_succ_cons, List.take_succ_cons, List.take_zero]
    decide

set_option maxHeartbeats 16000000 in
set_option maxRecDepth 1000000 in
theorem nxMin {b : Nat} {G : LogI} {s : ByteArray} {r : List UInt8} (g : hdB r = 45) : NxW b G s r := by
  intro P st0 k uo0 kd0 fl0 cs S f QN Q0 w h hX hA HR HC
  have ST := Lib.hid (fun P r st uo kd fl w (h : LR b P s r st uo kd fl w) => stepL b P s r st uo kd fl w h)
  have H0 := Lib.hid h
  have HA := Lib.hid hA
  have HX := Lib.hid hX
  have FIN := Lib.hid (show ∀ (kd uo fl : Nat) (R' : List UInt8) (T' : Array Value) (w' : World), nextB r = ([], r, kd, R') → uo ≤ 65535 → fl ≤ 2 → LxP b G s R' k (uo : Int) (kd : Int) (fl : Int) cs S w w' → Q0 .ret ⟨T', []⟩ w' from fun kd uo fl R' a' w' e1 e2 e3 e4 => HR _ _ (nxg_tok hA e1 e2 e3 e4))
  have QQ := Lib.hid (show ∀ (R' : List UInt8) (uo kd fl : Int) (w' : World), LR b P s R' k uo kd fl w' → Fr b w w' → LxP b G s R' k uo kd fl cs S w w' from fun R' uo kd fl w' hL f => LxP.quiet hX hL f (by
    obtain ⟨k', hA', hst', -⟩ := hL.reads
    have := hA'.size
    omega))
  clear h hX hA HR HC
  obtain ⟨y, hy⟩ : ∃ y, cntB r = y := ⟨_, rfl⟩
  obtain ⟨z, hz⟩ : ∃ z, decide (hdB (tlB r) = 45 ∧ hdB (tlB (tlB r)) = 62) = z := ⟨_, rfl⟩
  obtain ⟨y2, hy2⟩ : ∃ y, wouldB r = y := ⟨_, rfl⟩
  have NBT := Lib.hid (show y = true → nextB r = ([], r, (numericB r).1, (numericB r).2.2) from fun e => next_tok (c := 45) g (by decide) (fun e => absurd e (by decide)) (tokB_num (by rw [hy, e])))
  have NBC := Lib.hid (show y = false → z = true → nextB r = ([], r, 4, tlB (tlB (tlB r))) from fun e ez => next_tokX (c := 45) g (by decide) (fun e => absurd e (by decide)) (tokB_cdc (by rw [hy, e]) ⟨g, of_decide_eq_true (hz.trans ez)⟩))
  have NBI := Lib.hid (show y = false → z = false → y2 = true → nextB r = ([], r, (identB r).1, (identB r).2.2) from fun e ez e2 => next_tok (c := 45) g (by decide) (fun e => absurd e (by decide)) (tokB_ident (by rw [hy2, e2]) (by rw [hy, e]) (fun hh => of_decide_eq_false (hz.trans ez) hh.2)))
  have NBS := Lib.hid (show y = false → z = false → y2 = false → nextB r = ([], r, 22, tlB r) from fun e ez e2 => next_tok (c := 45) g (by decide) (fun e => absurd e (by decide)) (tokB_last (c := 45) g (by decide) (by decide) (fun e => absurd e (by decide)) (by rw [hy, e]) (fun hh => of_decide_eq_false (hz.trans ez) hh.2) (by rw [hy2, e2]) (fun hh => by omega) (fun hh => by omega)))
  have HY := Lib.hid hy
  have HY2 := Lib.hid hy2
  obtain ⟨K, hK⟩ : ∃ K, k + widB r = K := ⟨_, rfl⟩
  have A1 := HA.out.tail
  rw [hK] at A1
  have ARR := Lib.hid (arrow_is A1)
  rw [hz] at ARR
  have ARL := Lib.hid (show z = true → K + 2 ≤ s.size from fun e => by have h1 := arrow_len (of_decide_eq_true (hz.trans e)); have h2 := A1.size; omega)
  have HK := Lib.hid hK
  clear hy hz hy2 A1 hK
  have hL := H0.out
  obtain ⟨k', hA', hst, hk, hss, -, -, c35, c36, c37⟩ := hL.reads
  obtain rfl := HA.out.unique hA'
  have hkz := HA.out.le
  have E := Lib.hid (fun w => rangeEndI st0 k w hst (by omega))
  have c38 := hL.c38'
  obtain ⟨c39, c40⟩ := hL.c3940
  have hlt := hL.lt
  have z36 := hL.fz 36
  have z37 := hL.fz 37
  have z38 := hL.fz 38
  have z39 := hL.fz 39
  have z40 := hL.fz 40
  clear hL hA' hst hk
  conv => arg 2; whnf
  unfold nxF
  go_wp2_with fail
  refine (E.out _).mono ?_
  rintro e w1 ⟨rfl, hb1⟩
  have d35 := (hb1.cell (p := ⟨b, 35, none⟩) hlt).trans c35
  have d36 := (hb1.cell (p := ⟨b, 36, none⟩) hlt).trans c36
  have d37 := (hb1.cell (p := ⟨b, 37, none⟩) hlt).trans c37
  have d38 := (hb1.cell (p := ⟨b, 38, none⟩) hlt).trans c38
  have d39 := (hb1.cell (p := ⟨b, 39, none⟩) hlt).trans c39
  have d40 := (hb1.cell (p := ⟨b, 40, none⟩) hlt).trans c40
  have y36 := (hb1.frozen (p := ⟨b, 36, none⟩) hlt).trans z36
  have y37 := (hb1.frozen (p := ⟨b, 37, none⟩) hlt).trans z37
  have y38 := (hb1.frozen (p := ⟨b, 38, none⟩) hlt).trans z38
  have y39 := (hb1.frozen (p := ⟨b, 39, none⟩) hlt).trans z39
  have y40 := (hb1.frozen (p := ⟨b, 40, none⟩) hlt).trans z40
  have H1 := Lib.hid (H0.out.fr hb1)
  have F1 := Lib.hid (Fr.of (b := b) hb1)
  clear hb1 c35 c36 c37 c38 c39 c40 z36 z37 z38 z39 z40 H0 E
  go_upto_region 1 with fail
  obtain ⟨w2, hw2⟩ : ∃ x, (((((w1.setCell ⟨b, 36, none⟩ (.int .i32 (k : Int))).setCell ⟨b, 37, none⟩ (.int .i32 0)).setCell ⟨b, 38, none⟩ (.int .u16 0)).setCell ⟨b, 39, none⟩ (.int .u8 0)).setCell ⟨b, 40, none⟩ (.int .u8 0)) = x := ⟨_, rfl⟩
  rw [hw2]
  have hL2 : LR b P s r k 0 0 0 w2 := by rw [← hw2]; exact H1.out.begin HA.out
  have F2 := Lib.hid (show Fr b w w2 by rw [← hw2]; exact F1.out.trans (((((Fr.setCell w1 36 _).trans (Fr.setCell _ 37 _)).trans (Fr.setCell _ 38 _)).trans (Fr.setCell _ 39 _)).trans (Fr.setCell _ 40 _)))
  clear hw2 d35 d36 d37 d38 d39 d40 y36 y37 y38 y39 y40 H1 F1
  obtain ⟨k', hA', hst', hk', hss', -, -, c35, c36, c37⟩ := hL2.reads
  clear hA' hk' hss' hst' c36 c37
  have hlt2 := hL2.lt
  obtain ⟨c39, c40⟩ := hL2.c3940
  have z39 := hL2.fz 39
  have z40 := hL2.fz 40
  have H2 := Lib.hid hL2
  have X2 := Lib.hid (HX.out.fr (k' := k) F2.out (Nat.le_refl _))
  have S2 := Lib.hid (ST.out _ _ _ _ _ _ _ hL2)
  clear hL2
  have C := Lib.hid (numericI b P s r k 0 0 0 w2 H2.out HA.out)
  have CI := Lib.hid (fun w h X => idlG b G P s r k k 0 0 0 cs S _ _ _ w h X (Nat.le_refl _) HA.out (show identB r = ((identB r).1, (identB r).2.1, (identB r).2.2) from rfl))
  have CN := Lib.hid (cntI b P s r k 0 0 0 w2 H2.out)
  rw [HY.out] at CN
  obtain ⟨k', hA', -, hk', hss', c10, c33, -, -, -⟩ := H2.out.reads
  obtain rfl := HA.out.unique hA'
  rw [HK.out] at c33 hk'
  rw [g] at c35
  clear g hA'
  cases y
  · have C := CI
    clear CI
    cases z
    · by_cases g12 : K + 2 ≤ s.size
      · have e1 : (((s.extract K (K + 2)).toList) == [45, 62]) = false := ARR.out
        go_wp2_with fail
        refine (CN.out).mono ?_
        rintro e w' ⟨rfl, rfl⟩
        have i0 : (0 : Int) ≤ (K : Int) := by omega
        have i1 : (K : Int) ≤ (K : Int) + 2 := by omega
        have i2 : (K : Int) + 2 ≤ (s.size : Int) := by omega
        have i3 : ((K : Int) + 2).toNat = K + 2 := by omega
        have i4 : IntKind.i64.wrap ((K : Int) + 2) = (K : Int) + 2 := IntWalk.i64_in _ (by omega)
        go_wp2_with fail
        go_quiet (fail)
        clear i4 i3
        have H3 := Lib.hid (show LR b P s r k 0 0 0 (w2.drewN nq) from H2.out.fr (below_draws _ _ _))
        have F3 := Lib.hid (F2.out.trans (Fr.drewN b nq w2))
        clear c35 c39 c40 z39 z40 c10 c33
        have WW := Lib.hid (wouldI b P s r k 0 0 0 _ H3.out)
        rw [HY2.out] at WW
        go_wp2_with fail
        refine (WW.out).mono ?_
        rintro e w4 ⟨rfl, hb4⟩
        have H4 := Lib.hid (H3.out.fr hb4)
        have F4 := Lib.hid (F3.out.trans (Fr.of hb4))
        have X4 := Lib.hid (X2.out.fr (k' := k) ((Fr.drewN b nq w2).trans (Fr.of hb4)) (Nat.le_refl _))
        clear hb4
        cases y2
        · have NB := Lib.hid (NBS.out (by first | rfl | trivial) (by first | rfl | trivial) (by first | rfl | trivial))
          have S20 := Lib.hid (ST.out _ _ _ _ _ _ _ H4.out)
          go_wp2_with fail
          refine (S20.out).mono ?_
          rintro e wS0 ⟨rfl, hs, fs⟩
          have HS0 := Lib.hid hs
          have FS0 := Lib.hid (F4.out.trans fs)
          have d39 := hs.c3940.1
          have y39 := hs.fz 39
          clear hs fs
          go_wp2_with fail
          exact FIN.out _ 0 0 _ _ _ NB.out (by decide) (by decide) (QQ.out _ _ _ _ _ (HS0.out.set39 _) (FS0.out.trans (Fr.setCell _ 39 _)))
        · have NB := Lib.hid (NBI.out (by first | rfl | trivial) (by first | rfl | trivial) (by first | rfl | trivial))
          go_wp2_with fail
          refine (C.out _ H4.out X4.out).mono ?_
          rintro e w9 ⟨rfl, h9⟩
          have d39 := h9.c39
          have y39 := h9.z39
          have H9 := Lib.hid (LxP.trans (F4.out.fx HX.out.own) (fun _ hi => .inl hi) h9)
          clear h9
          go_wp2_with fail
          exact FIN.out _ 0 0 _ _ _ NB.out (by decide) (by decide) (H9.out.set39 _)
      · go_wp2_with fail
        refine (CN.out).mono ?_
        rintro e w' ⟨rfl, rfl⟩
        have i2 : decide ((K : Int) + 2 ≤ (s.size : Int)) = false := decide_eq_false (by omega)
        have i4 : IntKind.i64.wrap ((K : Int) + 2) = (K : Int) + 2 := IntWalk.i64_in _ (by omega)
        go_wp2_with fail
        go_quiet (fail)
        clear i4
        have H3 := Lib.hid (show LR b P s r k 0 0 0 (w2.drewN nq) from H2.out.fr (below_draws _ _ _))
        have F3 := Lib.hid (F2.out.trans (Fr.drewN b nq w2))
        clear c35 c39 c40 z39 z40 c10 c33
        have WW := Lib.hid (wouldI b P s r k 0 0 0 _ H3.out)
        rw [HY2.out] at WW
        go_wp2_with fail
        refine (WW.out).mono ?_
        rintro e w4 ⟨rfl, hb4⟩
        have H4 := Lib.hid (H3.out.fr hb4)
        have F4 := Lib.hid (F3.out.trans (Fr.of hb4))
        have X4 := Lib.hid (X2.out.fr (k' := k) ((Fr.drewN b nq w2).trans (Fr.of hb4)) (Nat.le_refl _))
        clear hb4
        cases y2
        · have NB := Lib.hid (NBS.out (by first | rfl | trivial) (by first | rfl | trivial) (by first | rfl | trivial))
          have S20 := Lib.hid (ST.out _ _ _ _ _ _ _ H4.out)
          go_wp2_with fail
          refine (S20.out).mono ?_
          rintro e wS0 ⟨rfl, hs, fs⟩
          have HS0 := Lib.hid hs
          have FS0 := Lib.hid (F4.out.trans fs)
          have d39 := hs.c3940.1
          have y39 := hs.fz 39
          clear hs fs
          go_wp2_with fail
          exact FIN.out _ 0 0 _ _ _ NB.out (by decide) (by decide) (QQ.out _ _ _ _ _ (HS0.out.set39 _) (FS0.out.trans (Fr.setCell _ 39 _)))
        · have NB := Lib.hid (NBI.out (by first | rfl | trivial) (by first | rfl | trivial) (by first | rfl | trivial))
          go_wp2_with fail
          refine (C.out _ H4.out X4.out).mono ?_
          rintro e w9 ⟨rfl, h9⟩
          have d39 := h9.c39
          have y39 := h9.z39
          have H9 := Lib.hid (LxP.trans (F4.out.fx HX.out.own) (fun _ hi => .inl hi) h9)
          clear h9
          go_wp2_with fail
          exact FIN.out _ 0 0 _ _ _ NB.out (by decide) (by decide) (H9.out.set39 _)
    · have g12 := ARL.out rfl
      have e1 : (((s.extract K (K + 2)).toList) == [45, 62]) = true := ARR.out
      have NB := Lib.hid (NBC.out rfl rfl)
      go_wp2_with fail
      refine (CN.out).mono ?_
      rintro e w' ⟨rfl, rfl⟩
      have i0 : (0 : Int) ≤ (K : Int) := by omega
      have i1 : (K : Int) ≤ (K : Int) + 2 := by omega
      have i2 : (K : Int) + 2 ≤ (s.size : Int) := by omega
      have i3 : ((K : Int) + 2).toNat = K + 2 := by omega
      have i4 : IntKind.i64.wrap ((K : Int) + 2) = (K : Int) + 2 := IntWalk.i64_in _ (by omega)
      go_wp2_with fail
      go_quiet (fail)
      clear i4 i3
      have H3 := Lib.hid (show LR b P s r k 0 0 0 (w2.drewN nq) from H2.out.fr (below_draws _ _ _))
      have F3 := Lib.hid (F2.out.trans (Fr.drewN b nq w2))
      clear c35 c39 c40 z39 z40 c10 c33
      have S20 := Lib.hid (ST.out _ _ _ _ _ _ _ H3.out)
      go_wp2_with fail
      refine (S20.out).mono ?_
      rintro e wS0 ⟨rfl, hs, fs⟩
      have HS0 := Lib.hid hs
      have FS0 := Lib.hid (F3.out.trans fs)
      clear hs fs
      have S21 := Lib.hid (ST.out _ _ _ _ _ _ _ HS0.out)
      go_wp2_with fail
      refine (S21.out).mono ?_
      rintro e wS1 ⟨rfl, hs, fs⟩
      have HS1 := Lib.hid hs
      have FS1 := Lib.hid (FS0.out.trans fs)
      clear hs fs
      have S22 := Lib.hid (ST.out _ _ _ _ _ _ _ HS1.out)
      go_wp2_with fail
      refine (S22.out).mono ?_
      rintro e wS2 ⟨rfl, hs, fs⟩
      have HS2 := Lib.hid hs
      have FS2 := Lib.hid (FS1.out.trans fs)
      have d39 := hs.c3940.1
      have y39 := hs.fz 39
      clear hs fs
      go_wp2_with fail
      exact FIN.out _ 0 0 _ _ _ NB.out (by decide) (by decide) (QQ.out _ _ _ _ _ (HS2.out.set39 _) (FS2.out.trans (Fr.setCell _ 39 _)))
  · have NB := Lib.hid (NBT.out rfl)
    go_wp2_with fail
    refine (CN.out).mono ?_
    rintro e w' ⟨rfl, rfl⟩
    go_wp2_with fail
    refine (C.out).mono ?_
    rintro e w3 ⟨rfl, h3, f3⟩
    have d39 := h3.c3940.1
    have y39 := h3.fz 39
    have H3 := Lib.hid h3
    have F3 := Lib.hid (F2.out.trans f3)
    clear h3 f3
    go_wp2_with fail
    exact nx_numF NB.out (FIN.out _) (QQ.out _ _ _ _ _ (H3.out.set39 _) (F3.out.trans (Fr.setCell _ 39 _)))

set_option maxHeartbeats 16000000 in
set_option maxRecDepth 1000000 in
theorem nxLt {b : Nat} {G : LogI} {s : ByteArray} {r : List UInt8} (g : hdB r = 60) : NxW b G s r := by
  intro P st0 k uo0 kd0 fl0 cs S f QN Q0 w h hX hA HR HC
  have ST := Lib.hid (fun P r st uo kd fl w (h : LR b P s r st uo kd fl w) => stepL b P s r st uo kd fl w h)
  have H0 := Lib.hid h
  have HA := Lib.hid hA
  have HX := Lib.hid hX
  have FIN := Lib.hid (show ∀ (kd uo fl : Nat) (R' : List UInt8) (T' : Array Value) (w' : World), nextB r = ([], r, kd, R') → uo ≤ 65535 → fl ≤ 2 → LxP b G s R' k (uo : Int) (kd : Int) (fl : Int) cs S w w' → Q0 .ret ⟨T', []⟩ w' from fun kd uo fl R' a' w' e1 e2 e3 e4 => HR _ _ (nxg_tok hA e1 e2 e3 e4))
  have QQ := Lib.hid (show ∀ (R' : List UInt8) (uo kd fl : Int) (w' : World), LR b P s R' k uo kd fl w' → Fr b w w' → LxP b G s R' k uo kd fl cs S w w' from fun R' uo kd fl w' hL f => LxP.quiet hX hL f (by
    obtain ⟨k', hA', hst', -⟩ := hL.reads
    have := hA'.size
    omega))
  clear h hX hA HR HC
  obtain ⟨z, hz⟩ : ∃ z, decide (hdB (tlB r) = 33 ∧ hdB (tlB (tlB r)) = 45 ∧ hdB (tlB (tlB (tlB r))) = 45) = z := ⟨_, rfl⟩
  have NBC := Lib.hid (show z = true → nextB r = ([], r, 5, tlB (tlB (tlB (tlB r)))) from fun ez => next_tokX (c := 60) g (by decide) (fun e => absurd e (by decide)) (tokB_cdo ⟨g, of_decide_eq_true (hz.trans ez)⟩))
  have NBS := Lib.hid (show z = false → nextB r = ([], r, 21, tlB r) from fun ez => next_tok (c := 60) g (by decide) (fun e => absurd e (by decide)) (tokB_last (c := 60) g (by decide) (by decide) (fun e => absurd e (by decide)) (cntB_no (by rw [g]; decide) (by omega) (by omega) (by omega)) (fun hh => by omega) (wouldB_no (by rw [g]; decide) (by omega) (by omega)) (fun hh => of_decide_eq_false (hz.trans ez) hh.2) (fun hh => by omega)))
  obtain ⟨K, hK⟩ : ∃ K, k + widB r = K := ⟨_, rfl⟩
  have A1 := HA.out.tail
  rw [hK] at A1
  have ARR := Lib.hid (cdo_is A1)
  rw [hz] at ARR
  have ARL := Lib.hid (show z = true → K + 3 ≤ s.size from fun e => by have h1 := cdo_len (of_decide_eq_true (hz.trans e)); have h2 := A1.size; omega)
  have HK := Lib.hid hK
  clear hz A1 hK
  have hL := H0.out
  obtain ⟨k', hA', hst, hk, hss, -, -, c35, c36, c37⟩ := hL.reads
  obtain rfl := HA.out.unique hA'
  have hkz := HA.out.le
  have E := Lib.hid (fun w => rangeEndI st0 k w hst (by omega))
  have c38 := hL.c38'
  obtain ⟨c39, c40⟩ := hL.c3940
  have hlt := hL.lt
  have z36 := hL.fz 36
  have z37 := hL.fz 37
  have z38 := hL.fz 38
  have z39 := hL.fz 39
  have z40 := hL.fz 40
  clear hL hA' hst hk
  conv => arg 2; whnf
  unfold nxF
  go_wp2_with fail
  refine (E.out _).mono ?_
  rintro e w1 ⟨rfl, hb1⟩
  have d35 := (hb1.cell (p := ⟨b, 35, none⟩) hlt).trans c35
  have d36 := (hb1.cell (p := ⟨b, 36, none⟩) hlt).trans c36
  have d37 := (hb1.cell (p := ⟨b, 37, none⟩) hlt).trans c37
  have d38 := (hb1.cell (p := ⟨b, 38, none⟩) hlt).trans c38
  have d39 := (hb1.cell (p := ⟨b, 39, none⟩) hlt).trans c39
  have d40 := (hb1.cell (p := ⟨b, 40, none⟩) hlt).trans c40
  have y36 := (hb1.frozen (p := ⟨b, 36, none⟩) hlt).trans z36
  have y37 := (hb1.frozen (p := ⟨b, 37, none⟩) hlt).trans z37
  have y38 := (hb1.frozen (p := ⟨b, 38, none⟩) hlt).trans z38
  have y39 := (hb1.frozen (p := ⟨b, 39, none⟩) hlt).trans z39
  have y40 := (hb1.frozen (p := ⟨b, 40, none⟩) hlt).trans z40
  have H1 := Lib.hid (H0.out.fr hb1)
  have F1 := Lib.hid (Fr.of (b := b) hb1)
  clear hb1 c35 c36 c37 c38 c39 c40 z36 z37 z38 z39 z40 H0 E
  go_upto_region 1 with fail
  obtain ⟨w2, hw2⟩ : ∃ x, (((((w1.setCell ⟨b, 36, none⟩ (.int .i32 (k : Int))).setCell ⟨b, 37, none⟩ (.int .i32 0)).setCell ⟨b, 38, none⟩ (.int .u16 0)).setCell ⟨b, 39, none⟩ (.int .u8 0)).setCell ⟨b, 40, none⟩ (.int .u8 0)) = x := ⟨_, rfl⟩
  rw [hw2]
  have hL2 : LR b P s r k 0 0 0 w2 := by rw [← hw2]; exact H1.out.begin HA.out
  have F2 := Lib.hid (show Fr b w w2 by rw [← hw2]; exact F1.out.trans (((((Fr.setCell w1 36 _).trans (Fr.setCell _ 37 _)).trans (Fr.setCell _ 38 _)).trans (Fr.setCell _ 39 _)).trans (Fr.setCell _ 40 _)))
  clear hw2 d35 d36 d37 d38 d39 d40 y36 y37 y38 y39 y40 H1 F1
  obtain ⟨k', hA', hst', hk', hss', -, -, c35, c36, c37⟩ := hL2.reads
  clear hA' hk' hss' hst' c36 c37
  have hlt2 := hL2.lt
  obtain ⟨c39, c40⟩ := hL2.c3940
  have z39 := hL2.fz 39
  have z40 := hL2.fz 40
  have H2 := Lib.hid hL2
  have X2 := Lib.hid (HX.out.fr (k' := k) F2.out (Nat.le_refl _))
  have S2 := Lib.hid (ST.out _ _ _ _ _ _ _ hL2)
  clear hL2
  obtain ⟨k', hA', -, hk', hss', c10, c33, -, -, -⟩ := H2.out.reads
  obtain rfl := HA.out.unique hA'
  rw [HK.out] at c33 hk'
  rw [g] at c35
  clear g hA'
  cases z
  · have NB := Lib.hid (NBS.out rfl)
    by_cases g12 : K + 3 ≤ s.size
    · have e1 : (((s.extract K (K + 3)).toList) == [33, 45, 45]) = false := ARR.out
      have i0 : (0 : Int) ≤ (K : Int) := by omega
      have i1 : (K : Int) ≤ (K : Int) + 3 := by omega
      have i2 : (K : Int) + 3 ≤ (s.size : Int) := by omega
      have i3 : ((K : Int) + 3).toNat = K + 3 := by omega
      have i4 : IntKind.i64.wrap ((K : Int) + 3) = (K : Int) + 3 := IntWalk.i64_in _ (by omega)
      go_wp2_with fail
      go_quiet (fail)
      clear i4 i3
      have H3 := Lib.hid (show LR b P s r k 0 0 0 (w2.drewN nq) from H2.out.fr (below_draws _ _ _))
      have F3 := Lib.hid (F2.out.trans (Fr.drewN b nq w2))
      clear c35 c39 c40 z39 z40 c10 c33
      have S20 := Lib.hid (ST.out _ _ _ _ _ _ _ H3.out)
      go_wp2_with fail
      refine (S20.out).mono ?_
      rintro e wS0 ⟨rfl, hs, fs⟩
      have HS0 := Lib.hid hs
      have FS0 := Lib.hid (F3.out.trans fs)
      have d39 := hs.c3940.1
      have y39 := hs.fz 39
      clear hs fs
      go_wp2_with fail
      exact FIN.out _ 0 0 _ _ _ NB.out (by decide) (by decide) (QQ.out _ _ _ _ _ (HS0.out.set39 _) (FS0.out.trans (Fr.setCell _ 39 _)))
    · skip
      have i2 : decide ((K : Int) + 3 ≤ (s.size : Int)) = false := decide_eq_false (by omega)
      have i4 : IntKind.i64.wrap ((K : Int) + 3) = (K : Int) + 3 := IntWalk.i64_in _ (by omega)
      go_wp2_with fail
      go_quiet (fail)
      clear i4
      have H3 := Lib.hid (show LR b P s r k 0 0 0 (w2.drewN nq) from H2.out.fr (below_draws _ _ _))
      have F3 := Lib.hid (F2.out.trans (Fr.drewN b nq w2))
      clear c35 c39 c40 z39 z40 c10 c33
      have S20 := Lib.hid (ST.out _ _ _ _ _ _ _ H3.out)
      go_wp2_with fail
      refine (S20.out).mono ?_
      rintro e wS0 ⟨rfl, hs, fs⟩
      have HS0 := Lib.hid hs
      have FS0 := Lib.hid (F3.out.trans fs)
      have d39 := hs.c3940.1
      have y39 := hs.fz 39
      clear hs fs
      go_wp2_with fail
      exact FIN.out _ 0 0 _ _ _ NB.out (by decide) (by decide) (QQ.out _ _ _ _ _ (HS0.out.set39 _) (FS0.out.trans (Fr.setCell _ 39 _)))
  · have NB := Lib.hid (NBC.out rfl)
    have g12 := ARL.out rfl
    have e1 : (((s.extract K (K + 3)).toList) == [33, 45, 45]) = true := ARR.out
    have i0 : (0 : Int) ≤ (K : Int) := by omega
    have i1 : (K : Int) ≤ (K : Int) + 3 := by omega
    have i2 : (K : Int) + 3 ≤ (s.size : Int) := by omega
    have i3 : ((K : Int) + 3).toNat = K + 3 := by omega
    have i4 : IntKind.i64.wrap ((K : Int) + 3) = (K : Int) + 3 := IntWalk.i64_in _ (by omega)
    go_wp2_with fail
    go_quiet (fail)
    clear i4 i3
    have H3 := Lib.hid (show LR b P s r k 0 0 0 (w2.drewN nq) from H2.out.fr (below_draws _ _ _))
    have F3 := Lib.hid (F2.out.trans (Fr.drewN b nq w2))
    clear c35 c39 c40 z39 z40 c10 c33
    have S20 := Lib.hid (ST.out _ _ _ _ _ _ _ H3.out)
    go_wp2_with fail
    refine (S20.out).mono ?_
    rintro e wS0 ⟨rfl, hs, fs⟩
    have HS0 := Lib.hid hs
    have FS0 := Lib.hid (F3.out.trans fs)
    clear hs fs
    have S21 := Lib.hid (ST.out _ _ _ _ _ _ _ HS0.out)
    go_wp2_with fail
    refine (S21.out).mono ?_
    rintro e wS1 ⟨rfl, hs, fs⟩
    have HS1 := Lib.hid hs
    have FS1 := Lib.hid (FS0.out.trans fs)
    clear hs fs
    have S22 := Lib.hid (ST.out _ _ _ _ _ _ _ HS1.out)
    go_wp2_with fail
    refine (S22.out).mono ?_
    rintro e wS2 ⟨rfl, hs, fs⟩
    have HS2 := Lib.hid hs
    have FS2 := Lib.hid (FS1.out.trans fs)
    clear hs fs
    have S23 := Lib.hid (ST.out _ _ _ _ _ _ _ HS2.out)
    go_wp2_with fail
    refine (S23.out).mono ?_
    rintro e wS3 ⟨rfl, hs, fs⟩
    have HS3 := Lib.hid hs
    have FS3 := Lib.hid (FS2.out.trans fs)
    have d39 := hs.c3940.1
    have y39 := hs.fz 39
    clear hs fs
    go_wp2_with fail
    exact FIN.out _ 0 0 _ _ _ NB.out (by decide) (by decide) (QQ.out _ _ _ _ _ (HS3.out.set39 _) (FS3.out.trans (Fr.setCell _ 39 _)))
end Go.Proofs.YtmgkccnfhkcncaaGreatDoor
