/-
  css_lexer's lexer: next in general, class by class (the slash). Printed by wip/gen_nxg.py.
-/
import Derived.Test.YtmgkccnfhkcncaaGreatDoorNxFW
import Derived.Test.YtmgkccnfhkcncaaGreatDoorCmtG
import Derived.Deep.QuietTactic
import Derived.BigQuiet
import Derived.IntWalk
namespace Go.Proofs.YtmgkccnfhkcncaaGreatDoor
open Go.RowKit
attribute [local go_sem ↓] Go.wp_at_zero Go.wp_at_succ

theorem LxS.c34 {b : Nat} {G : LogI} {s : ByteArray} {k : Nat} {cs : List (Nat × Nat)} {S : Nat → Prop} {P : Nat → Option Value} {w w2 : World} {r : List UInt8} {st : Nat} {uo kd fl : Int} (h : LxS b G s k cs S P w) (hL : LR b P s r st uo kd fl w2) : ∃ v : Int, w2.cell? ⟨b, 34, none⟩ = some (.int .i32 v) := by
  obtain ⟨mv, cv, lv, nm, nL, hx, -⟩ := h
  obtain ⟨-, -, -, kp, n, -, -, -, hB⟩ := hL
  obtain ⟨v, hv⟩ := hx.old
  exact ⟨v, (hB.p 34 (by omega)).trans hv⟩
theorem nxF_of {b : Nat} (a : Act) (h : a = nxF b (fun i => a.tmps.getD i undef)) : ∃ f', a = nxF b f' := ⟨_, h⟩

set_option maxHeartbeats 16000000 in
set_option maxRecDepth 1000000 in
theorem nxSlash {b : Nat} {G : LogI} {s : ByteArray} {r : List UInt8} (g : hdB r = 47) : NxW b G s r := by
  intro P st0 k uo0 kd0 fl0 cs S f QN Q0 w h hX hA HR HC
  have ST := Lib.hid (fun P r st uo kd fl w (h : LR b P s r st uo kd fl w) => stepL b P s r st uo kd fl w h)
  have H0 := Lib.hid h
  have HA := Lib.hid hA
  have HX := Lib.hid hX
  have FIN := Lib.hid (show ∀ (kd uo fl : Nat) (R' : List UInt8) (T' : Array Value) (w' : World), nextB r = ([], r, kd, R') → uo ≤ 65535 → fl ≤ 2 → LxP b G s R' k (uo : Int) (kd : Int) (fl : Int) cs S w w' → Q0 .ret ⟨T', []⟩ w' from fun kd uo fl R' a' w' e1 e2 e3 e4 => HR _ _ (nxg_tok hA e1 e2 e3 e4))
  have QQ := Lib.hid (show ∀ (R' : List UInt8) (uo kd fl : Int) (w' : World), LR b P s R' k uo kd fl w' → Fr b w w' → LxP b G s R' k uo kd fl cs S w w' from fun R' uo kd fl w' hL f => LxP.quiet hX hL f (by
    obtain ⟨k', hA', hst', -⟩ := hL.reads
    have := hA'.size
    omega))
  have HC0 := Lib.hid HC
  clear h hX hA HR HC
  have NB0 := Lib.hid (show hdB (tlB r) ≠ 42 → nextB r = ([], r, 24, tlB r) from fun h42 => next_tok (c := 47) g (by decide) (fun _ => h42) (tokB_sign (c := 47) g (by decide)))
  have BK := Lib.hid (bd_head HA.out (by rw [g]; decide))
  have TW := Lib.hid (show widB r = 1 by obtain ⟨x, t, -, -, -, h⟩ := hdB_low (c := 47) g (by decide); exact h)
  have HG := Lib.hid g
  obtain ⟨r1, hr1⟩ : ∃ r1, tlB r = r1 := ⟨_, rfl⟩
  have A1 := Lib.hid (show AtB s (k + 1) r1 by have h := HA.out.tail; rw [TW.out, hr1] at h; exact h)
  have HR1 := Lib.hid hr1
  rw [hr1] at NB0
  clear hr1
  have NBS := Lib.hid (show ∀ i, S i → w.heap.size ≤ i → False from fun i hi h2 => by have := HX.out.lt H0.out.lt i hi; omega)
  have hL := H0.out
  obtain ⟨k', hA', hst, hk, hss, -, -, c35, c36, c37⟩ := hL.reads
  obtain rfl := HA.out.unique hA'
  have hkz := HA.out.le
  have E := Lib.hid (fun w => rangeEndI st0 k w hst (by omega))
  have c38 := hL.c38'
  obtain ⟨c39, c40⟩ := hL.c3940
  have hlt := hL.lt
  have z36 := hL.fz 36
  have z37 := hL.fz 37
  have z38 := hL.fz 38
  have z39 := hL.fz 39
  have z40 := hL.fz 40
  clear hL hA' hst hk
  conv => arg 2; whnf
  unfold nxF
  go_wp2_with fail
  refine (E.out _).mono ?_
  rintro e w1 ⟨rfl, hb1⟩
  have d35 := (hb1.cell (p := ⟨b, 35, none⟩) hlt).trans c35
  have d36 := (hb1.cell (p := ⟨b, 36, none⟩) hlt).trans c36
  have d37 := (hb1.cell (p := ⟨b, 37, none⟩) hlt).trans c37
  have d38 := (hb1.cell (p := ⟨b, 38, none⟩) hlt).trans c38
  have d39 := (hb1.cell (p := ⟨b, 39, none⟩) hlt).trans c39
  have d40 := (hb1.cell (p := ⟨b, 40, none⟩) hlt).trans c40
  have y36 := (hb1.frozen (p := ⟨b, 36, none⟩) hlt).trans z36
  have y37 := (hb1.frozen (p := ⟨b, 37, none⟩) hlt).trans z37
  have y38 := (hb1.frozen (p := ⟨b, 38, none⟩) hlt).trans z38
  have y39 := (hb1.frozen (p := ⟨b, 39, none⟩) hlt).trans z39
  have y40 := (hb1.frozen (p := ⟨b, 40, none⟩) hlt).trans z40
  have H1 := Lib.hid (H0.out.fr hb1)
  have F1 := Lib.hid (Fr.of (b := b) hb1)
  clear hb1 c35 c36 c37 c38 c39 c40 z36 z37 z38 z39 z40 H0 E
  go_upto_region 1 with fail
  obtain ⟨w2, hw2⟩ : ∃ x, (((((w1.setCell ⟨b, 36, none⟩ (.int .i32 (k : Int))).setCell ⟨b, 37, none⟩ (.int .i32 0)).setCell ⟨b, 38, none⟩ (.int .u16 0)).setCell ⟨b, 39, none⟩ (.int .u8 0)).setCell ⟨b, 40, none⟩ (.int .u8 0)) = x := ⟨_, rfl⟩
  rw [hw2]
  have hL2 : LR b P s r k 0 0 0 w2 := by rw [← hw2]; exact H1.out.begin HA.out
  have F2 := Lib.hid (show Fr b w w2 by rw [← hw2]; exact F1.out.trans (((((Fr.setCell w1 36 _).trans (Fr.setCell _ 37 _)).trans (Fr.setCell _ 38 _)).trans (Fr.setCell _ 39 _)).trans (Fr.setCell _ 40 _)))
  clear hw2 d35 d36 d37 d38 d39 d40 y36 y37 y38 y39 y40 H1 F1
  obtain ⟨k', hA', hst', hk', hss', -, -, c35, c36, c37⟩ := hL2.reads
  clear hA' hk' hss' hst' c36 c37
  have hlt2 := hL2.lt
  obtain ⟨c39, c40⟩ := hL2.c3940
  have z39 := hL2.fz 39
  have z40 := hL2.fz 40
  have H2 := Lib.hid hL2
  have X2 := Lib.hid (HX.out.fr (k' := k) F2.out (Nat.le_refl _))
  have S2 := Lib.hid (ST.out _ _ _ _ _ _ _ hL2)
  clear hL2
  rw [HR1.out] at S2
  rw [g] at c35
  clear g
  go_wp2_with fail
  refine (S2.out).mono ?_
  rintro e w3 ⟨rfl, h3, f3⟩
  obtain ⟨k3, hA3, -, -, -, c10, c33, d35, -, -⟩ := h3.reads
  obtain rfl := A1.out.unique hA3
  have H3 := Lib.hid h3
  have F3 := Lib.hid (F2.out.trans f3)
  have d39 := h3.c3940.1
  have y39 := h3.fz 39
  have S3 := Lib.hid (ST.out _ _ _ _ _ _ _ h3)
  clear h3 f3 c35 c39 c40 z39 z40 S2 hA3
  by_cases g1 : hdB r1 = 42
  · as_aux_lemma =>
    rw [g1] at d35
    obtain ⟨r2, hr2⟩ : ∃ r2, tlB r1 = r2 := ⟨_, rfl⟩
    have W1 : widB r1 = 1 := by obtain ⟨x, t, -, -, -, h⟩ := hdB_low (c := 42) g1 (by decide); exact h
    have A2 := A1.out.tail
    rw [W1, hr2] at A2
    have hz2 := A2.size
    rw [hr2] at S3
    have SC := Lib.hid (show startC r from ⟨HG.out, by rw [HR1.out]; exact g1⟩)
    have HR2 := Lib.hid hr2
    clear c10 c33 d39 y39 W1 hr2 g1
    go_wp2_with fail
    refine (S3.out).mono ?_
    rintro e w4 ⟨rfl, h4, f4⟩
    have F4 := Lib.hid (F3.out.trans f4)
    obtain ⟨d36, d37⟩ := h4.c3637 A2
    have X4 := HX.out.fr (k' := k) F4.out (Nat.le_refl _)
    have CM := Lib.hid (cmtG b G P s r2 k k k 0 0 0 (((k + 1 + 1 : Nat) : Int) - (k : Int)) cs S w4 h4 X4 (Nat.le_refl _) BK.out (by omega) (by omega) (by omega))
    have KZ := Lib.hid (show s.size - r.length = k by have := HA.out.size; omega)
    clear h4 f4 X4 A2 d35
    go_wp2_with fail
    refine (CM.out).mono ?_
    rintro e w5 ⟨rfl, hP⟩
    have QC := Lib.hid (show ∀ a', (∃ f', a' = nxF b f') → QN a' w5 from fun a' ha => by
      cases hc : cmtB r2 with
      | none =>
        refine HC0.out a' w5 [] [] ha SC.out (fun R h => ?_) (fun _ => ⟨rfl, rfl⟩) ?_
        · rw [HR1.out, HR2.out, hc] at h; cases h
        · rw [absC_nil, List.append_nil]
          exact LxP.trans (F4.out.fx HX.out.own) (fun _ hi => .inl hi) (hP.2 hc)
      | some R =>
        refine HC0.out a' w5 R [(r.length, R.length)] ha SC.out (fun R2 h => ?_) (fun h => ?_) ?_
        · rw [HR1.out, HR2.out, hc] at h
          obtain rfl := Option.some.inj h
          exact ⟨rfl, rfl⟩
        · rw [HR1.out, HR2.out, hc] at h; cases h
        · rw [absC_cons, absC_nil]
          dsimp only
          rw [KZ.out]
          exact LxP.trans (F4.out.fx HX.out.own) (fun _ hi => .inl hi) (hP.1 R hc))
    clear hP d36 d37
    go_wp2_with fail
    refine QC.out _ ?_
    exact nxF_of _ rfl
  · have NB := Lib.hid (NB0.out g1)
    by_cases g2 : hdB r1 = 47
    · as_aux_lemma =>
      rw [g2] at d35
      obtain ⟨d36, d37⟩ := H3.out.c3637 A1.out
      have X3 := Lib.hid (HX.out.fr (k' := k) F3.out (Nat.le_refl _))
      obtain ⟨v, c34⟩ := X3.out.c34 H3.out
      obtain ⟨K, hK⟩ : ∃ K : Nat, k + 1 + widB r1 = K := ⟨_, rfl⟩
      have hKz : K ≤ s.size := by have := A1.out.wle; omega
      have e33 : w3.cell? ⟨b, 33, none⟩ = some (.int .i64 (K : Int)) := by
        obtain ⟨k3, hA3, -, -, -, -, c33', -, -, -⟩ := H3.out.reads
        obtain rfl := A1.out.unique hA3
        rw [hK] at c33'
        exact c33'
      have hl3 := H3.out.lt
      have KPZ := Lib.hid (show s.size - r1.length = k + 1 by have := A1.out.size; omega)
      have hkz1 : k + 1 ≤ s.size := A1.out.le
      clear c33 g1 g2 NB0 hK
      go_upto_region 16 with fail
      obtain ⟨Lb, hLb⟩ : ∃ H, w3.heap.size = H := ⟨_, rfl⟩
      obtain ⟨w4, hw4⟩ : ∃ x, w3.alloc (.cells #[.int .i32 (k : Int)] 53) = x := ⟨_, rfl⟩
      have K4 : w4.heap[Lb]? = some (.cells #[.int .i32 (k : Int)] 53 (0, 0)) := by
        have h := heap_alloc_new w3 (.cells #[.int .i32 (k : Int)] 53)
        rw [hw4, hLb] at h
        exact h
      have B4 := Lib.hid (show Below w3.heap.size w3 w4 by rw [← hw4]; exact (Below.refl _ _).alloc (Nat.le_refl _) _)
      have q0 : w4.cell? ⟨Lb, 0, none⟩ = some (.int .i32 (k : Int)) := by rw [Lib.cell_of_heap K4]; rfl
      have q34 := (B4.out.cell (p := ⟨b, 34, none⟩) hl3).trans c34
      have q33 := (B4.out.cell (p := ⟨b, 33, none⟩) hl3).trans e33
      have q10 := (B4.out.cell (p := ⟨b, 10, none⟩) hl3).trans c10
      have q39 := (B4.out.cell (p := ⟨b, 39, none⟩) hl3).trans d39
      have x39 := (B4.out.frozen (p := ⟨b, 39, none⟩) hl3).trans y39
      have LBW := Lib.hid (show w.heap.size ≤ Lb by have := F3.out.size; omega)
      have K4' := Lib.hid K4
      rw [hw4, hLb]
      clear K4 hw4 hLb c34 e33 c10 d39 y39 d36 d37
      go_quiet (fail)
      have LQ := Lib.hid (show LR b P s r1 k 0 0 0 (w4.drewN nq) from (H3.out.fr B4.out).fr (below_draws _ _ _))
      have FQ := Lib.hid ((F3.out.trans (Fr.of B4.out)).trans (Fr.drewN b nq w4))
      have XQ := Lib.hid (X3.out.fr (k' := k) ((Fr.of B4.out).trans (Fr.drewN b nq w4)) (Nat.le_refl _))
      have KQ := Lib.hid (show (w4.drewN nq).heap[Lb]? = some (.cells #[.int .i32 (k : Int)] 53 (0, 0)) from K4'.out)
      obtain ⟨wq, hwq⟩ : ∃ x, w4.drewN nq = x := ⟨_, rfl⟩
      have TI := Lib.hid (fun (tx : ByteArray) w2 (hL2 : LR b P s r1 k 0 0 0 w2) (hX2 : LxS b G s k cs S P w2) => tellID b G s r1 k k k (k + 1) 0 0 0 2 39 1 tx cs S P w2 hL2 hX2 (by omega) (Nat.le_refl _) (by omega) hkz1 BK.out (by decide) (by decide))
      unfold LogI.val logV at TI
      rw [hwq] at LQ FQ XQ KQ ⊢
      have q33' : wq.cell? ⟨b, 33, none⟩ = some (.int .i64 (K : Int)) := by rw [← hwq]; exact q33
      have q10' : wq.cell? ⟨b, 10, none⟩ = some (.string s) := by rw [← hwq]; exact q10
      have q0' : wq.cell? ⟨Lb, 0, none⟩ = some (.int .i32 (k : Int)) := by rw [← hwq]; exact q0
      have q39' : wq.cell? ⟨b, 39, none⟩ = some (.int .u8 0) := by rw [← hwq]; exact q39
      have x39' : wq.frozen? ⟨b, 39, none⟩ = false := by rw [← hwq]; exact x39
      clear hwq q34 q33 q10 q39 x39 q0
      by_cases hv : v ≤ (k : Int)
      · have hv1 : decide (v ≤ (k : Int)) = true := decide_eq_true hv
        rw [hv1]
        obtain ⟨d1, d2, d3, d4, d5, d6⟩ := XQ.out.c16 LQ.out
        clear q39' x39' hv hv1
        go_wp2_with fail
        go_loopw [4] (fun v4 wr => ∃ e : Nat, v4 = .int .i64 (e : Int) ∧ e ≤ s.size ∧ wr = wq) (fun v4 _ => s.size - (numOf (some v4)).toNat)
        case atStart => exact ⟨K, rfl, hKz, rfl⟩
        case round =>
          obtain ⟨e, rfl, he, rfl⟩ := hrel
          have e0 : (0 : Int) ≤ (e : Int) := by omega
          have e2 : ((e : Int)).toNat = e := by omega
          have e3 : (e : Int) ≤ 1073741824 := by omega
          by_cases he2 : e < s.size
          · have j1 : (e : Int) < (s.size : Int) := by omega
            have j2 : decide ((e : Int) < (s.size : Int)) = true := decide_eq_true j1
            obtain ⟨y, hy⟩ : ∃ y, s[e] = y := ⟨_, rfl⟩
            have hy1 : y.toNat ≤ 255 := by have := y.toNat_lt; omega
            obtain ⟨vn, hvn⟩ : ∃ v, nlB (y.toNat : Int) = v := ⟨_, rfl⟩
            have W := Lib.hid (fun w => lexNewline (y.toNat : Int) w)
            rw [hvn] at W
            clear hvn
            cases vn
            · go_wp2_with (go_at_call 93; refine (W.out _).mono ?_; rintro e w' ⟨rfl, rfl⟩)
              go_roundw
              case rel => exact ⟨e + 1, by go_num, he2, by first | rfl | trivial⟩
              case measure =>
                show s.size - ((e : Int) + 1).toNat < s.size - ((e : Int)).toNat
                omega
            · go_upto_region 21 with (go_at_call 93; refine (W.out _).mono ?_; rintro e w' ⟨rfl, rfl⟩)
              go_region_held3 (fun w' => w'.cell? ⟨b, 1, none⟩ = some (.func (.func 71) #[] #[.pointer (some ⟨G.gk, 0, none⟩), .pointer (some ⟨G.gm, 0, none⟩), .pointer (some ⟨G.gh, 0, none⟩), .pointer (some ⟨G.gs, 0, none⟩)]) ∧ w'.cell? ⟨b, 2, none⟩ = some (.func G.g2 #[] G.c2) ∧ w'.cell? ⟨b, 3, none⟩ = some (.func G.g3 #[] G.c3) ∧ w'.cell? ⟨b, 4, none⟩ = some (.func G.g4 #[] G.c4) ∧ w'.cell? ⟨b, 5, none⟩ = some (.int .i8 3) ∧ w'.cell? ⟨b, 6, none⟩ = some (.map none) ∧ w'.cell? ⟨Lb, 0, none⟩ = some (.int .i32 (k : Int))) (go_keep)
                ((go_at_call 94; refine (TI.out _ _ (LQ.out.fr (Below.drew (Below.refl _ _))) (XQ.out.fr (Fr.of (Below.drew (Below.refl _ _))) (Nat.le_refl _))).mono ?_; rintro e w6 ⟨rfl, P6, S6, q1, q2, q3, q4, q5⟩; obtain ⟨i1, i2, i3, i4, i5, i6⟩ := q2.c16 q1; have KL6 := (q4.block Lb (Array.getElem?_eq_some_iff.1 KQ.out).1 (fun hh => NBS.out Lb hh LBW.out)).trans KQ.out; have i7 : w6.cell? ⟨Lb, 0, none⟩ = some (.int .i32 (k : Int)) := (by rw [Lib.cell_of_heap KL6]; rfl); have Q1 := Lib.hid q1; have Q2 := Lib.hid q2; have Q4 := Lib.hid q4; have Q5 := Lib.hid q5; clear q1 q2 q3 q4 q5 KL6))
              obtain ⟨v6, c34'⟩ := Q2.out.c34 Q1.out
              have z34 := Q1.out.fz 34
              have c40' := Q1.out.c3940.2
              have c39' := Q1.out.c3940.1
              have z40' := Q1.out.fz 40
              have z39' := Q1.out.fz 39
              have hbit : bits BinOp.or IntKind.u8 0 2 = 2 := by decide
              go_wp2_with fail
              refine FIN.out _ 0 2 _ _ _ NB.out (by decide) (by decide) ⟨_, S6, ((Q1.out.setP 34 (by omega) (by omega) _).set40 2).set39 24, ((Q2.out.old34 _).fr ((Fr.setCell _ 40 _).trans (Fr.setCell _ 39 _)) (by have := KPZ.out; omega)), ?_, fun i hi => (Q5.out i hi).elim .inl fun h => .inr (Nat.le_trans FQ.out.size h)⟩
              exact ((FQ.out.trans (Fr.of (Below.drew (Below.refl _ _)))).fx HX.out.own).trans (Q4.out.trans ((((Fr.setCell _ 34 _).trans (Fr.setCell _ 40 _)).trans (Fr.setCell _ 39 _)).fx Q2.out.own) Q5.out) (fun _ hi => .inl hi)
          · have j2 : decide ((e : Int) < (s.size : Int)) = false := decide_eq_false (by omega)
            go_upto_region 21 with fail
            go_region_held3 (fun w' => w'.cell? ⟨b, 1, none⟩ = some (.func (.func 71) #[] #[.pointer (some ⟨G.gk, 0, none⟩), .pointer (some ⟨G.gm, 0, none⟩), .pointer (some ⟨G.gh, 0, none⟩), .pointer (some ⟨G.gs, 0, none⟩)]) ∧ w'.cell? ⟨b, 2, none⟩ = some (.func G.g2 #[] G.c2) ∧ w'.cell? ⟨b, 3, none⟩ = some (.func G.g3 #[] G.c3) ∧ w'.cell? ⟨b, 4, none⟩ = some (.func G.g4 #[] G.c4) ∧ w'.cell? ⟨b, 5, none⟩ = some (.int .i8 3) ∧ w'.cell? ⟨b, 6, none⟩ = some (.map none) ∧ w'.cell? ⟨Lb, 0, none⟩ = some (.int .i32 (k : Int))) (go_keep)
              ((go_at_call 94; refine (TI.out _ _ (LQ.out.fr (Below.drew (Below.refl _ _))) (XQ.out.fr (Fr.of (Below.drew (Below.refl _ _))) (Nat.le_refl _))).mono ?_; rintro e w6 ⟨rfl, P6, S6, q1, q2, q3, q4, q5⟩; obtain ⟨i1, i2, i3, i4, i5, i6⟩ := q2.c16 q1; have KL6 := (q4.block Lb (Array.getElem?_eq_some_iff.1 KQ.out).1 (fun hh => NBS.out Lb hh LBW.out)).trans KQ.out; have i7 : w6.cell? ⟨Lb, 0, none⟩ = some (.int .i32 (k : Int)) := (by rw [Lib.cell_of_heap KL6]; rfl); have Q1 := Lib.hid q1; have Q2 := Lib.hid q2; have Q4 := Lib.hid q4; have Q5 := Lib.hid q5; clear q1 q2 q3 q4 q5 KL6))
            obtain ⟨v6, c34'⟩ := Q2.out.c34 Q1.out
            have z34 := Q1.out.fz 34
            have c40' := Q1.out.c3940.2
            have c39' := Q1.out.c3940.1
            have z40' := Q1.out.fz 40
            have z39' := Q1.out.fz 39
            have hbit : bits BinOp.or IntKind.u8 0 2 = 2 := by decide
            go_wp2_with fail
            refine FIN.out _ 0 2 _ _ _ NB.out (by decide) (by decide) ⟨_, S6, ((Q1.out.setP 34 (by omega) (by omega) _).set40 2).set39 24, ((Q2.out.old34 _).fr ((Fr.setCell _ 40 _).trans (Fr.setCell _ 39 _)) (by have := KPZ.out; omega)), ?_, fun i hi => (Q5.out i hi).elim .inl fun h => .inr (Nat.le_trans FQ.out.size h)⟩
            exact ((FQ.out.trans (Fr.of (Below.drew (Below.refl _ _)))).fx HX.out.own).trans (Q4.out.trans ((((Fr.setCell _ 34 _).trans (Fr.setCell _ 40 _)).trans (Fr.setCell _ 39 _)).fx Q2.out.own) Q5.out) (fun _ hi => .inl hi)
      · have hv1 : decide (v ≤ (k : Int)) = false := decide_eq_false hv
        rw [hv1]
        go_wp2_with fail
        exact FIN.out _ 0 0 _ _ _ NB.out (by decide) (by decide) (QQ.out _ _ _ _ _ (LQ.out.set39 24) (FQ.out.trans (Fr.setCell _ 39 _)))
    · obtain ⟨cq, hcq⟩ : ∃ cq, hdB r1 = cq := ⟨_, rfl⟩
      rw [hcq] at d35 g1 g2
      have t1 : (cq == 42) = false := beq_eq_false_iff_ne.2 g1
      have t2 : (cq == 47) = false := beq_eq_false_iff_ne.2 g2
      clear g1 g2 hcq c10 c33
      go_wp2_with fail
      exact FIN.out _ 0 0 _ _ _ NB.out (by decide) (by decide) (QQ.out _ _ _ _ _ (H3.out.set39 24) (F3.out.trans (Fr.setCell _ 39 _)))
end Go.Proofs.YtmgkccnfhkcncaaGreatDoor
