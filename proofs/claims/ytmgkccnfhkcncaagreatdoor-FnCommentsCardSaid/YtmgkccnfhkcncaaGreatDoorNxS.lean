/-
  css_lexer's lexer: next in general, class by class (whitespace). Printed by wip/gen_nxg.py.
-/
import Derived.Test.YtmgkccnfhkcncaaGreatDoorNxE
import Derived.Test.YtmgkccnfhkcncaaGreatDoorCmtG
namespace Go.Proofs.YtmgkccnfhkcncaaGreatDoor
open Go.RowKit
attribute [local go_sem ↓] Go.wp_at_zero Go.wp_at_succ

/-- The loop over whitespace and comments. -/
def WsRel (b : Nat) (G : LogI) (s : ByteArray) (k : Nat) (cs : List (Nat × Nat)) (S : Nat → Prop) (w : World) (t : List UInt8) (wr : World) : Prop :=
  ∃ r' c1, LxP b G s r' k 0 0 0 (cs ++ absC s.size c1) S w wr ∧ (c1 ++ (wcB r').1, (wcB r').2) = wcB t
theorem ws_next {b : Nat} {G : LogI} {s : ByteArray} {k n : Nat} {cs : List (Nat × Nat)} {S : Nat → Prop} {w w8 : World} {t : List UInt8} (h : ∃ R c', LxP b G s R k 0 0 0 (cs ++ absC s.size c') S w w8 ∧ (c' ++ (wcB R).1, (wcB R).2) = wcB t ∧ R.length < n) : WsRel b G s k cs S w t w8 := by
  obtain ⟨R, c', h1, h2, -⟩ := h
  exact ⟨R, c', h1, h2⟩
theorem LxP.drewN {b : Nat} {G : LogI} {s : ByteArray} {R : List UInt8} {st : Nat} {uo kd fl : Int} {cs : List (Nat × Nat)} {S : Nat → Prop} {w w' : World} (h : LxP b G s R st uo kd fl cs S w w') (n : Nat) : LxP b G s R st uo kd fl cs S w (w'.drewN n) := by
  obtain ⟨P', S', h1, h2, h3, h4⟩ := h
  exact ⟨P', S', h1.fr (below_draws _ _ _), h2.fr (Fr.drewN _ _ _) (Nat.le_refl _), h3.trans ((Fr.drewN b n w').fx h2.own) h4, h4⟩
theorem nxg_sp {b : Nat} {G : LogI} {s : ByteArray} {cs c1 : List (Nat × Nat)} {S : Nat → Prop} {r R : List UInt8} {k : Nat} {w w' : World} (hA : AtB s k r) (hx : nextB r = (c1, r, 38, R)) (h : LxP b G s R k 0 38 0 (cs ++ absC s.size c1) S w w') : NxG b G s cs S (nextB r) w w' := by
  have e : s.size - r.length = k := by have := hA.size; omega
  rw [hx]
  refine ⟨0, 0, by decide, by decide, ?_, ?_⟩
  · show AtB s (s.size - r.length) r
    rw [e]; exact hA
  · show LxP b G s R (s.size - r.length) 0 38 0 (cs ++ absC s.size c1) S w w'
    rw [e]; exact h

set_option maxHeartbeats 16000000 in
set_option maxRecDepth 1000000 in
theorem nxWs {b : Nat} {G : LogI} {s : ByteArray} {r : List UInt8} (g : spB (hdB r) = true) : NxW b G s r := by
  intro P st0 k uo0 kd0 fl0 cs S f QN Q0 w h hX hA HR HC
  have ST := Lib.hid (fun P r st uo kd fl w (h : LR b P s r st uo kd fl w) => stepL b P s r st uo kd fl w h)
  have H0 := Lib.hid h
  have HA := Lib.hid hA
  have HX := Lib.hid hX
  have FIN := Lib.hid (show ∀ (kd uo fl : Nat) (R' : List UInt8) (T' : Array Value) (w' : World), nextB r = ([], r, kd, R') → uo ≤ 65535 → fl ≤ 2 → LxP b G s R' k (uo : Int) (kd : Int) (fl : Int) cs S w w' → Q0 .ret ⟨T', []⟩ w' from fun kd uo fl R' a' w' e1 e2 e3 e4 => HR _ _ (nxg_tok hA e1 e2 e3 e4))
  have QQ := Lib.hid (show ∀ (R' : List UInt8) (uo kd fl : Int) (w' : World), LR b P s R' k uo kd fl w' → Fr b w w' → LxP b G s R' k uo kd fl cs S w w' from fun R' uo kd fl w' hL f => LxP.quiet hX hL f (by
    obtain ⟨k', hA', hst', -⟩ := hL.reads
    have := hA'.size
    omega))
  have HR0 := Lib.hid HR
  clear h hX hA HR HC
  have NB := Lib.hid (nextB_sp g)
  have HR2 := Lib.hid (show ∀ (c1 : List (Nat × Nat)) (R' : List UInt8) (T' : Array Value) (w' : World), (wcB (tlB r)) = (c1, R') → LxP b G s R' k 0 38 0 (cs ++ absC s.size c1) S w w' → Q0 .ret ⟨T', []⟩ w' from fun c1 R' a' w' e h => HR0.out _ _ (nxg_sp HA.out (by rw [NB.out, e]) h))
  have g5 : hdB r = 10 ∨ hdB r = 13 ∨ hdB r = 12 ∨ hdB r = 9 ∨ hdB r = 32 := of_decide_eq_true g
  have hL := H0.out
  obtain ⟨k', hA', hst, hk, hss, -, -, c35, c36, c37⟩ := hL.reads
  obtain rfl := HA.out.unique hA'
  have hkz := HA.out.le
  have E := Lib.hid (fun w => rangeEndI st0 k w hst (by omega))
  have c38 := hL.c38'
  obtain ⟨c39, c40⟩ := hL.c3940
  have hlt := hL.lt
  have z36 := hL.fz 36
  have z37 := hL.fz 37
  have z38 := hL.fz 38
  have z39 := hL.fz 39
  have z40 := hL.fz 40
  clear hL hA' hst hk
  conv => arg 2; whnf
  unfold nxF
  go_wp2_with fail
  refine (E.out _).mono ?_
  rintro e w1 ⟨rfl, hb1⟩
  have d35 := (hb1.cell (p := ⟨b, 35, none⟩) hlt).trans c35
  have d36 := (hb1.cell (p := ⟨b, 36, none⟩) hlt).trans c36
  have d37 := (hb1.cell (p := ⟨b, 37, none⟩) hlt).trans c37
  have d38 := (hb1.cell (p := ⟨b, 38, none⟩) hlt).trans c38
  have d39 := (hb1.cell (p := ⟨b, 39, none⟩) hlt).trans c39
  have d40 := (hb1.cell (p := ⟨b, 40, none⟩) hlt).trans c40
  have y36 := (hb1.frozen (p := ⟨b, 36, none⟩) hlt).trans z36
  have y37 := (hb1.frozen (p := ⟨b, 37, none⟩) hlt).trans z37
  have y38 := (hb1.frozen (p := ⟨b, 38, none⟩) hlt).trans z38
  have y39 := (hb1.frozen (p := ⟨b, 39, none⟩) hlt).trans z39
  have y40 := (hb1.frozen (p := ⟨b, 40, none⟩) hlt).trans z40
  have H1 := Lib.hid (H0.out.fr hb1)
  have F1 := Lib.hid (Fr.of (b := b) hb1)
  clear hb1 c35 c36 c37 c38 c39 c40 z36 z37 z38 z39 z40 H0 E
  go_upto_region 1 with fail
  obtain ⟨w2, hw2⟩ : ∃ x, (((((w1.setCell ⟨b, 36, none⟩ (.int .i32 (k : Int))).setCell ⟨b, 37, none⟩ (.int .i32 0)).setCell ⟨b, 38, none⟩ (.int .u16 0)).setCell ⟨b, 39, none⟩ (.int .u8 0)).setCell ⟨b, 40, none⟩ (.int .u8 0)) = x := ⟨_, rfl⟩
  rw [hw2]
  have hL2 : LR b P s r k 0 0 0 w2 := by rw [← hw2]; exact H1.out.begin HA.out
  have F2 := Lib.hid (show Fr b w w2 by rw [← hw2]; exact F1.out.trans (((((Fr.setCell w1 36 _).trans (Fr.setCell _ 37 _)).trans (Fr.setCell _ 38 _)).trans (Fr.setCell _ 39 _)).trans (Fr.setCell _ 40 _)))
  clear hw2 d35 d36 d37 d38 d39 d40 y36 y37 y38 y39 y40 H1 F1
  obtain ⟨k', hA', hst', hk', hss', -, -, c35, c36, c37⟩ := hL2.reads
  clear hA' hk' hss' hst' c36 c37
  have hlt2 := hL2.lt
  obtain ⟨c39, c40⟩ := hL2.c3940
  have z39 := hL2.fz 39
  have z40 := hL2.fz 40
  have H2 := Lib.hid hL2
  have X2 := Lib.hid (HX.out.fr (k' := k) F2.out (Nat.le_refl _))
  have S2 := Lib.hid (ST.out _ _ _ _ _ _ _ hL2)
  clear hL2
  obtain ⟨cq, hcq⟩ : ∃ cq, hdB r = cq := ⟨_, rfl⟩
  rw [hcq] at c35 g5
  clear g hcq
  go_upto_if 132 with fail
  go_cut [132] from 133 to 137 (fun v wx => v = .bool true ∧ wx = w2)
  case first =>
    rcases g5 with rfl | rfl | rfl | rfl | rfl
    all_goals
      go_wp2_with fail
      go_meet
      exact ⟨rfl, rfl⟩
  case rest =>
    obtain ⟨rfl, rfl⟩ := hcut
    go_wp2_with fail
    refine (S2.out).mono ?_
    rintro e w3 ⟨rfl, h3, f3⟩
    have F3 := Lib.hid (F2.out.trans f3)
    have START := Lib.hid (show WsRel b G s k cs S w (tlB r) w3 from ⟨tlB r, [], by rw [absC_nil, List.append_nil]; exact QQ.out _ _ _ _ _ h3 F3.out, rfl⟩)
    clear h3 f3 c35 c39 c40 z39 z40 S2 g5
    go_wp2_with fail
    go_loopw [] (fun wr => WsRel b G s k cs S w (tlB r) wr) (fun wr => leftI b s wr)
    case atStart => exact START.out
    case round =>
      obtain ⟨r', c1, ⟨P1, S1, hL, hX1, hF1, hS1⟩, hw⟩ := hrel
      clear START
      obtain ⟨k1, hA1, hst1, hk1, hss1, c10, c33, c35, c36, c37⟩ := hL.reads
      have M := Lib.hid hL.left
      have HL := Lib.hid hL
      have HX1 := Lib.hid hX1
      have HF1 := Lib.hid hF1
      have HS1 := Lib.hid hS1
      have HW := Lib.hid hw
      have AA := Lib.hid hA1
      have S3 := Lib.hid (ST.out _ _ _ _ _ _ _ hL)
      have hlt1 := hL.lt
      have KPZ := Lib.hid (show s.size - r'.length = k1 by have := hA1.size; omega)
      have W := Lib.hid (fun w => lexSpace (hdB r') w)
      have d39 := hL.c3940.1
      have y39 := hL.fz 39
      clear hL hX1 hF1 hS1 hw
      by_cases g1 : spB (hdB r') = true
      · have e1 := wcB_sp g1
        have LT := Lib.hid (tlB_len (sp_ne g1))
        rw [g1] at W
        obtain ⟨cq2, hcq2⟩ : ∃ cq, hdB r' = cq := ⟨_, rfl⟩
        rw [hcq2] at c35 W
        have X1 := Lib.hid (show (c1 ++ (wcB (tlB r')).1, (wcB (tlB r')).2) = wcB (tlB r) by rw [← HW.out, e1])
        have AT := Lib.hid AA.out.tail
        clear g1 e1 hcq2 hA1 c10 c33 c36 c37 d39 y39
        go_wp2_with (go_at_call 62; refine (W.out _).mono ?_; rintro e w' ⟨rfl, rfl⟩)
        refine (S3.out).mono ?_
        rintro e w4 ⟨rfl, h4, f4⟩
        have H4 := Lib.hid h4
        have F4 := Lib.hid f4
        clear h4 f4 c35
        go_wp2_with fail
        go_roundw
        case rel => exact ⟨_, c1, ⟨P1, S1, H4.out, HX1.out.fr F4.out (by have := LT.out; omega), HF1.out.trans (F4.out.fx HX1.out.own) HS1.out, HS1.out⟩, X1.out⟩
        case measure => rw [H4.out.left, M.out]; exact LT.out
      · have g2 := Bool.eq_false_iff.2 g1
        rw [g2] at W
        by_cases g3 : startC r'
        · obtain ⟨x4, t4, hx4, -, ht4, hw4⟩ := hdB_low (c := 47) g3.1 (by decide)
          obtain ⟨x5, t5, hx5, hx5b, ht5, hw5⟩ := hdB_low (c := 42) g3.2 (by decide)
          obtain ⟨K1, hK1⟩ : ∃ K, k1 + 1 = K := ⟨_, rfl⟩
          have AT := hA1.tail
          rw [hw4, hK1] at AT
          rw [hw4, hK1] at c33
          have AT2 := AT.tail
          rw [hw5] at AT2
          have hlen2 := AT2.size
          have BK := Lib.hid (bd_head hA1 (by rw [g3.1]; decide))
          have G3 := Lib.hid g3
          have g4 := g3.1
          rw [g4] at c35 W
          have g5 : K1 < s.size := by have := AT2.le; omega
          obtain ⟨y, hy⟩ : ∃ y, s[K1] = y := ⟨_, rfl⟩
          have hb5 : y.toNat = 42 := by
            have hg := AT.get 0 (by omega)
            simp only [Nat.add_zero] at hg
            rw [hx5, hy] at hg
            have : x5 = y := by simpa using hg
            rw [← this]; exact hx5b
          have hz5 : (K1 : Int) < (s.size : Int) := by omega
          have i0 : (0 : Int) ≤ (K1 : Int) := by omega
          have i1 : decide ((K1 : Int) < (s.size : Int)) = true := decide_eq_true hz5
          have i2 : ((K1 : Int)).toNat = K1 := by omega
          have t5' : ((y.toNat : Int) == 42) = true := beq_iff_eq.2 (by omega)
          have E := Lib.hid (fun w => rangeEndI k k1 w hst1 (by omega))
          have hk1z : k1 ≤ s.size := hA1.le
          obtain ⟨r2, hr2⟩ : ∃ x, tlB (tlB r') = x := ⟨_, rfl⟩
          rw [hr2] at hlen2
          have CM := Lib.hid (fun w4 (h4 : LR b P1 s r2 k 0 0 0 w4) (X4 : LxS b G s (s.size - r'.length) (cs ++ absC s.size c1) S1 P1 w4) => cmtG b G P1 s r2 k (s.size - r'.length) k1 0 0 0 2 (cs ++ absC s.size c1) S1 w4 h4 X4 (by rw [KPZ.out]; exact Nat.le_refl _) BK.out (by omega) (by decide) (by decide))
          have LT := Lib.hid (show r2.length < r'.length by have h1 := tl_lt g3.1 (by decide); have h2 := tl_lt g3.2 (by decide); rw [hr2] at h2; omega)
          have WC := Lib.hid (show ∀ R, cmtB r2 = some R → (c1 ++ [(r'.length, R.length)] ++ (wcB R).1, (wcB R).2) = wcB (tlB r) ∧ R.length < r'.length from fun R hR => by
            have hR' : cmtB (tlB (tlB r')) = some R := by rw [hr2]; exact hR
            have h1 := start_lt g3 hR'
            rw [← HW.out, wcB_cmt g3 hR']
            exact ⟨by simp, by omega⟩)
          have WO := Lib.hid (show cmtB r2 = none → (c1 ++ (wcB []).1, (wcB []).2) = wcB (tlB r) from fun hR => by
            rw [← HW.out, wcB_open g3 (by rw [hr2]; exact hR)]
            rfl)
          have HR2' := Lib.hid hr2
          have hlr : 0 < r'.length := by have := LT.out; omega
          clear x4 t4 hx4 ht4 hw4 x5 t5 hx5 hx5b ht5 hw5 g1 g2 g3 g4 hA1 AT AT2 hb5 hr2 hK1 hk1z
          go_wp2_with (go_at_call 62; refine (W.out _).mono ?_; rintro e w' ⟨rfl, rfl⟩)
          go_quiet (fail)
          have LD := Lib.hid (show LR b P1 s r' k 0 0 0 (wr.drewN nq) from HL.out.fr (below_draws _ _ _))
          have FD := Lib.hid (Fr.drewN b nq wr)
          clear i1 i2 t5' hy i0 hz5 c10 c33 c35 d39 y39
          go_wp2_with fail
          refine (E.out _).mono ?_
          rintro e w4 ⟨rfl, hb4⟩
          have L4 := Lib.hid (LD.out.fr hb4)
          have F4 := Lib.hid (FD.out.trans (Fr.of hb4))
          clear hb4 c36 c37
          go_upto_region 35 with fail
          obtain ⟨Lb, hLb⟩ : ∃ H, w4.heap.size = H := ⟨_, rfl⟩
          obtain ⟨w5, hw5⟩ : ∃ x, w4.alloc (.cells #[.int .i32 (k1 : Int), .int .i32 2] 55) = x := ⟨_, rfl⟩
          have K5 : w5.heap[Lb]? = some (.cells #[.int .i32 (k1 : Int), .int .i32 2] 55 (0, 0)) := by
            have h := heap_alloc_new w4 (.cells #[.int .i32 (k1 : Int), .int .i32 2] 55)
            rw [hw5, hLb] at h
            exact h
          have B5 := Lib.hid (show Below w4.heap.size w4 w5 by rw [← hw5]; exact (Below.refl _ _).alloc (Nat.le_refl _) _)
          have L5 := Lib.hid (L4.out.fr B5.out)
          have F5 := Lib.hid (F4.out.trans (Fr.of B5.out))
          have HK5 := Lib.hid K5
          have S5 := Lib.hid (ST.out _ _ _ _ _ _ _ L5.out)
          have hLbb : Lb ≠ b := by have := L4.out.lt; omega
          rw [hw5, hLb]
          clear K5 hw5 hLb
          go_wp2_with fail
          refine (S5.out).mono ?_
          rintro e w6 ⟨rfl, h6, f6⟩
          have S6 := Lib.hid (ST.out _ _ _ _ _ _ _ h6)
          have F6 := Lib.hid (F5.out.trans f6)
          have HK6 := Lib.hid ((f6.block Lb (Array.getElem?_eq_some_iff.1 HK5.out).1 hLbb).trans HK5.out)
          clear h6 f6
          go_wp2_with fail
          refine (S6.out).mono ?_
          rintro e w7 ⟨rfl, h7, f7⟩
          rw [HR2'.out] at h7
          have F7 := Lib.hid (F6.out.trans f7)
          have HK7 := Lib.hid ((f7.block Lb (Array.getElem?_eq_some_iff.1 HK6.out).1 hLbb).trans HK6.out)
          have q0 : w7.cell? ⟨Lb, 0, none⟩ = some (.int .i32 (k1 : Int)) := by rw [Lib.cell_of_heap HK7.out]; rfl
          have q1 : w7.cell? ⟨Lb, 1, none⟩ = some (.int .i32 2) := by rw [Lib.cell_of_heap HK7.out]; rfl
          have CM7 := Lib.hid (CM.out w7 h7 (HX1.out.fr F7.out (Nat.le_refl _)))
          clear h7 f7
          go_wp2_with fail
          refine (CM7.out).mono ?_
          rintro e w8 ⟨rfl, hP⟩
          have NEXT := Lib.hid (show ∃ R c', LxP b G s R k 0 0 0 (cs ++ absC s.size c') S w w8 ∧ (c' ++ (wcB R).1, (wcB R).2) = wcB (tlB r) ∧ R.length < r'.length by
            cases hc : cmtB r2 with
            | none => exact ⟨[], c1, LxP.trans (HF1.out.trans (F7.out.fx HX1.out.own) HS1.out) HS1.out (hP.2 hc), WO.out hc, hlr⟩
            | some R =>
              obtain ⟨g1, g2⟩ := WC.out R hc
              refine ⟨R, c1 ++ [(r'.length, R.length)], ?_, g1, g2⟩
              rw [absC_app, ← List.append_assoc, absC_cons, absC_nil]
              dsimp only
              rw [KPZ.out]
              exact LxP.trans (HF1.out.trans (F7.out.fx HX1.out.own) HS1.out) HS1.out (hP.1 R hc))
          clear hP q0 q1
          go_wp2_with fail
          go_roundw
          case rel => exact ws_next NEXT.out
          case measure =>
            obtain ⟨R, c', ⟨P8, S8, h8, -⟩, -, h9⟩ := NEXT.out
            rw [h8.left, M.out]; exact h9
        · have e1 := wcB_stop g1 g3
          have DONE := Lib.hid (show ∀ (T' : Array Value) (w' : World), LxP b G s r' k 0 38 0 (cs ++ absC s.size c1) S w w' → Q0 .ret ⟨T', []⟩ w' from fun a' w' h => HR2.out c1 r' a' w' (by rw [← HW.out, e1, List.append_nil]) h)
          have G3 := Lib.hid g3
          have L4 := Lib.hid (show LxP b G s r' k 0 0 0 (cs ++ absC s.size c1) S w wr from ⟨P1, S1, HL.out, HX1.out, HF1.out, HS1.out⟩)
          clear e1 g1 g2 g3 c36 c37
          by_cases g4 : hdB r' = 47
          · rw [g4] at c35 W
            have G4 := Lib.hid g4
            obtain ⟨x4, t4, hx4, -, ht4, hw4⟩ := hdB_low (c := 47) g4 (by decide)
            obtain ⟨K1, hK1⟩ : ∃ K, k1 + widB r' = K := ⟨_, rfl⟩
            have AT := hA1.tail
            rw [hK1] at AT c33
            have NS := Lib.hid (show hdB (tlB r') ≠ 42 from fun e => G3.out ⟨G4.out, e⟩)
            clear x4 t4 hx4 ht4 hw4 g4 hA1
            by_cases g5 : K1 < s.size
            · have hb5 : s[K1].toNat ≠ 42 := by
                have hg := AT.get 0 (by omega)
                simp only [Nat.add_zero] at hg
                obtain ⟨t5, ht5⟩ : ∃ t5, tlB r' = s[K1] :: t5 := by
                  cases hh : tlB r' with
                  | nil => rw [hh] at hg; simp at hg
                  | cons x t => rw [hh] at hg; simp at hg; exact ⟨t, by rw [hg]⟩
                intro e
                exact NS.out (by rw [ht5]; exact (hd_low (c := 42) (by decide)).2 e)
              have hz5 : (K1 : Int) < (s.size : Int) := by omega
              have i0 : (0 : Int) ≤ (K1 : Int) := by omega
              have i1 : decide ((K1 : Int) < (s.size : Int)) = true := decide_eq_true hz5
              have i2 : ((K1 : Int)).toNat = K1 := by omega
              obtain ⟨y, hy⟩ : ∃ y, s[K1] = y := ⟨_, rfl⟩
              rw [hy] at hb5
              have t5 : ((y.toNat : Int) == 42) = false := beq_eq_false_iff_ne.2 (by omega)
              clear hb5 AT hK1
              go_wp2_with (go_at_call 62; refine (W.out _).mono ?_; rintro e w' ⟨rfl, rfl⟩)
              go_quiet (fail)
              go_wp2_with fail
              exact DONE.out _ _ ((LxP.drewN L4.out nq).set39 38)
            · have i1 : decide ((K1 : Int) < (s.size : Int)) = false := decide_eq_false (by omega)
              clear AT hK1
              go_wp2_with (go_at_call 62; refine (W.out _).mono ?_; rintro e w' ⟨rfl, rfl⟩)
              go_quiet (fail)
              go_wp2_with fail
              exact DONE.out _ _ ((LxP.drewN L4.out nq).set39 38)
          · obtain ⟨cq2, hcq2⟩ : ∃ cq, hdB r' = cq := ⟨_, rfl⟩
            rw [hcq2] at c35 W g4
            have t1 : (cq2 == 47) = false := beq_eq_false_iff_ne.2 g4
            clear g4 hcq2 hA1
            go_wp2_with (go_at_call 62; refine (W.out _).mono ?_; rintro e w' ⟨rfl, rfl⟩)
            go_quiet (fail)
            have d39' := d39
            have y39' := y39
            go_wp2_with fail
            exact DONE.out _ _ ((LxP.drewN L4.out nq).set39 38)
end Go.Proofs.YtmgkccnfhkcncaaGreatDoor
