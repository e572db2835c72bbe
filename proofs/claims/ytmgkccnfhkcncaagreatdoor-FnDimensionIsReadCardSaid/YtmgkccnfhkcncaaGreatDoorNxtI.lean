/-
  css_lexer's lexer: next, where it tells nothing and meets no comment and no whitespace.
-/
import Derived.Test.YtmgkccnfhkcncaaGreatDoorIdlI
import Derived.Test.YtmgkccnfhkcncaaGreatDoorNmcI
import Derived.Test.YtmgkccnfhkcncaaGreatDoorStrI
import Derived.Test.YtmgkccnfhkcncaaGreatDoorMathP
import Derived.Outline
import Derived.LoopN
namespace Go.Proofs.YtmgkccnfhkcncaaGreatDoor
open Go.RowKit

/-- A new token begins. -/
theorem LR.begin {b : Nat} {P : Nat → Option Value} {s : ByteArray} {r : List UInt8} {st k : Nat} {uo kd fl : Int} {w : World} (h : LR b P s r st uo kd fl w) (hA : AtB s k r) :
    LR b P s r k 0 0 0 (((((w.setCell ⟨b, 36, none⟩ (.int .i32 (k : Int))).setCell ⟨b, 37, none⟩ (.int .i32 0)).setCell ⟨b, 38, none⟩ (.int .u16 0)).setCell ⟨b, 39, none⟩ (.int .u8 0)).setCell ⟨b, 40, none⟩ (.int .u8 0)) := by
  obtain ⟨hTB, hP, hs, k', n, hA', hst, hn, hL⟩ := h
  obtain rfl := hA.unique hA'
  have f : Fr b w (((((w.setCell ⟨b, 36, none⟩ (.int .i32 (k : Int))).setCell ⟨b, 37, none⟩ (.int .i32 0)).setCell ⟨b, 38, none⟩ (.int .u16 0)).setCell ⟨b, 39, none⟩ (.int .u8 0)).setCell ⟨b, 40, none⟩ (.int .u8 0)) :=
    ((((Fr.setCell w 36 _).trans (Fr.setCell _ 37 _)).trans (Fr.setCell _ 38 _)).trans (Fr.setCell _ 39 _)).trans (Fr.setCell _ 40 _)
  refine ⟨hTB.fr f, hP, hs, k, n, hA, Nat.le_refl _, hn, ?_⟩
  rw [Int.sub_self]
  exact ((((hL.set36 k).set37 0).set38 0).set39 0).set40 0
theorem LR.c3940 {b : Nat} {P : Nat → Option Value} {s : ByteArray} {r : List UInt8} {st : Nat} {uo kd fl : Int} {w : World} (h : LR b P s r st uo kd fl w) : w.cell? ⟨b, 39, none⟩ = some (.int .u8 kd) ∧ w.cell? ⟨b, 40, none⟩ = some (.int .u8 fl) := by
  obtain ⟨_, _, _, k, n, _, _, _, hL⟩ := h
  exact hL.c.2.2.2.2.2.2
theorem LR.set39 {b : Nat} {P : Nat → Option Value} {s : ByteArray} {r : List UInt8} {st : Nat} {uo kd fl : Int} {w : World} (h : LR b P s r st uo kd fl w) (v : Int) : LR b P s r st uo v fl (w.setCell ⟨b, 39, none⟩ (.int .u8 v)) := by
  obtain ⟨hTB, hP, hs, k, n, hA, hst, hn, hL⟩ := h
  exact ⟨hTB.fr (Fr.setCell w 39 _), hP, hs, k, n, hA, hst, hn, hL.set39 v⟩
theorem LR.set40 {b : Nat} {P : Nat → Option Value} {s : ByteArray} {r : List UInt8} {st : Nat} {uo kd fl : Int} {w : World} (h : LR b P s r st uo kd fl w) (v : Int) : LR b P s r st uo kd v (w.setCell ⟨b, 40, none⟩ (.int .u8 v)) := by
  obtain ⟨hTB, hP, hs, k, n, hA, hst, hn, hL⟩ := h
  exact ⟨hTB.fr (Fr.setCell w 40 _), hP, hs, k, n, hA, hst, hn, hL.set40 v⟩
/-- What next's caller sees. -/
def NxP (b : Nat) (P : Nat → Option Value) (s : ByteArray) (R : List UInt8) (k : Nat) (uo kd fl : Nat) (w : World) (e : Ending) (w' : World) : Prop :=
  e = .returned (.tuple #[]) ∧ LR b P s R k (IntKind.u16.wrap (uo : Int)) kd fl w' ∧ Fr b w w'
/-- nxB, class by class. -/
def nxB7 (r : List UInt8) : Option (Nat × Nat × Nat × List UInt8) := if nsB (hdB r) = true then (if (identB r).2.1 = false then some ((identB r).1, 0, 0, (identB r).2.2) else none) else none
def nxB6 (r : List UInt8) : Option (Nat × Nat × Nat × List UInt8) := if hdB r = 92 then (if vescB r = true ∧ (identB r).2.1 = false then some ((identB r).1, 0, 0, (identB r).2.2) else none) else nxB7 r
def nxB5 (r : List UInt8) : Option (Nat × Nat × Nat × List UInt8) := if hdB r = 45 then
    (if cntB r = false ∧ ¬ (hdB (tlB r) = 45 ∧ hdB (tlB (tlB r)) = 62) ∧ wouldB r = true ∧ (identB r).2.1 = false then some ((identB r).1, 0, 0, (identB r).2.2) else none) else nxB6 r
def nxB4 (r : List UInt8) : Option (Nat × Nat × Nat × List UInt8) := if dgB (hdB r) = true then some ((numericB r).1, (numericB r).2.1, 0, (numericB r).2.2) else nxB5 r
def nxB3 (r : List UInt8) : Option (Nat × Nat × Nat × List UInt8) := if hdB r = 64 then (if wouldB (tlB r) = true then some (1, 0, 0, nameR (tlB r)) else none) else nxB4 r
def nxB2 (r : List UInt8) : Option (Nat × Nat × Nat × List UInt8) := if hdB r = 58 then some (9, 0, 0, tlB r) else nxB3 r
def nxB1 (r : List UInt8) : Option (Nat × Nat × Nat × List UInt8) := if hdB r = 35 then (if ncB (hdB (tlB r)) = true ∨ vescB (tlB r) = true then some (28, 0, if wouldB (tlB r) = true then 1 else 0, nameR (tlB r)) else none) else nxB2 r
theorem nx_fin {b : Nat} {P : Nat → Option Value} {s : ByteArray} {R : List UInt8} {k kd fl : Nat} {w w' : World} (h : LR b P s R k 0 kd fl w') (f : Fr b w w') : NxP b P s R k 0 kd fl w (.returned (.tuple #[])) w' := by
  refine ⟨rfl, ?_, f⟩
  rw [show IntKind.u16.wrap ((0 : Nat) : Int) = 0 from rfl]
  exact h
theorem nx_num {b : Nat} {P : Nat → Option Value} {s : ByteArray} {r R : List UInt8} {k kd uo : Nat} {w w' : World} (h1 : (numericB r).1 = kd) (h2 : (numericB r).2.1 = uo) (h3 : (numericB r).2.2 = R)
    (h : LR b P s (numericB r).2.2 k (if (numericB r).1 = 26 then IntKind.u16.wrap ((numericB r).2.1 : Nat) else 0) ((numericB r).1 : Nat) 0 w') (f : Fr b w w') : NxP b P s R k uo kd 0 w (.returned (.tuple #[])) w' := by
  refine ⟨rfl, ?_, f⟩
  rw [h1, h2, h3] at h
  by_cases h26 : kd = 26
  · rw [if_pos h26] at h; exact h
  · rw [if_neg h26] at h
    have : uo = 0 := by
      rw [← h2]
      rw [← h1] at h26
      unfold numericB at h26 ⊢
      split
      · rename_i hw; rw [if_pos hw] at h26; exact absurd rfl h26
      · split <;> rfl
    rw [this, show IntKind.u16.wrap ((0 : Nat) : Int) = 0 from rfl]
    exact h
theorem no_arrow {s : ByteArray} {K : Nat} {t : List UInt8} (hA : AtB s K t) (h : ¬ (hdB t = 45 ∧ hdB (tlB t) = 62)) : (((s.extract K (K + 2)).toList) == [45, 62]) = false := by
  refine beq_eq_false_iff_ne.2 fun e => h ?_
  rw [ByteArray.toList_eq, Lib.extract_data, hA.drop, show K + 2 - K = 2 by omega] at e
  match t, e with
  | x :: y :: u, e =>
    simp only [List.take_succ_cons, List.take_zero, List.cons.injEq] at e
    obtain ⟨rfl, rfl, _⟩ := e
    rw [tlB_ascii (by decide), hdB_ascii (by decide), hdB_ascii (by decide)]
    decide
def NxRel (b : Nat) (P : Nat → Option Value) (s : ByteArray) (r : List UInt8) (st : Nat) (uo kd fl : Int) (w wr : World) : Prop := LR b P s r st uo kd fl wr ∧ Fr b w wr

set_option maxHeartbeats 16000000 in
set_option maxRecDepth 1000000 in
theorem nextI (b : Nat) (P : Nat → Option Value) (s : ByteArray) (r : List UInt8) (st0 : Nat) (uo0 kd0 fl0 : Int) (k : Nat) (R : List UInt8) (uo kd fl : Nat) (w : World) (h : LR b P s r st0 uo0 kd0 fl0 w) (hA : AtB s k r) (hx : nxB r = some (kd, uo, fl, R)) :
    Calls Tryz.prog 80 #[.pointer (some ⟨b, 0, none⟩)] w fun e w' => NxP b P s R k uo kd fl w e w' := by
  have ST := Lib.hid (fun r st uo kd fl w (h : LR b P s r st uo kd fl w) => stepL b P s r st uo kd fl w h)
  have H0 := Lib.hid h
  have HA := Lib.hid hA
  have HX := Lib.hid hx
  clear h hA hx
  have hL := H0.out
  obtain ⟨k', hA', hst, hk, hss, -, -, c35, c36, c37⟩ := hL.reads
  obtain rfl := HA.out.unique hA'
  have hkz := HA.out.le
  have E := Lib.hid (fun w => rangeEndI st0 k w hst (by omega))
  have c38 := hL.c38
  obtain ⟨c39, c40⟩ := hL.c3940
  have hlt := hL.lt
  have z36 := hL.fz 36
  have z37 := hL.fz 37
  have z38 := hL.fz 38
  have z39 := hL.fz 39
  have z40 := hL.fz 40
  clear hL hA'
  go_enter Tryz.func80, Tryz.ntmps80
  go_wp2_with fail
  refine wp_loop_rounds 1 ?_
  rw [rounds_succ]
  go_wp2_with fail
  refine (E.out _).mono ?_
  rintro e w1 ⟨rfl, hb1⟩
  have d35 := (hb1.cell (p := ⟨b, 35, none⟩) hlt).trans c35
  have d36 := (hb1.cell (p := ⟨b, 36, none⟩) hlt).trans c36
  have d37 := (hb1.cell (p := ⟨b, 37, none⟩) hlt).trans c37
  have d38 := (hb1.cell (p := ⟨b, 38, none⟩) hlt).trans c38
  have d39 := (hb1.cell (p := ⟨b, 39, none⟩) hlt).trans c39
  have d40 := (hb1.cell (p := ⟨b, 40, none⟩) hlt).trans c40
  have y36 := (hb1.frozen (p := ⟨b, 36, none⟩) hlt).trans z36
  have y37 := (hb1.frozen (p := ⟨b, 37, none⟩) hlt).trans z37
  have y38 := (hb1.frozen (p := ⟨b, 38, none⟩) hlt).trans z38
  have y39 := (hb1.frozen (p := ⟨b, 39, none⟩) hlt).trans z39
  have y40 := (hb1.frozen (p := ⟨b, 40, none⟩) hlt).trans z40
  have H1 := Lib.hid (H0.out.fr hb1)
  have F1 := Lib.hid (Fr.of (b := b) hb1)
  clear hb1 c35 c36 c37 c38 c39 c40 z36 z37 z38 z39 z40 H0 E
  go_upto_region 1 with fail
  obtain ⟨w2, hw2⟩ : ∃ x, (((((w1.setCell ⟨b, 36, none⟩ (.int .i32 (k : Int))).setCell ⟨b, 37, none⟩ (.int .i32 0)).setCell ⟨b, 38, none⟩ (.int .u16 0)).setCell ⟨b, 39, none⟩ (.int .u8 0)).setCell ⟨b, 40, none⟩ (.int .u8 0)) = x := ⟨_, rfl⟩
  rw [hw2]
  have hL2 : LR b P s r k 0 0 0 w2 := by rw [← hw2]; exact H1.out.begin HA.out
  have F2 := Lib.hid (show Fr b w w2 by rw [← hw2]; exact F1.out.trans (((((Fr.setCell w1 36 _).trans (Fr.setCell _ 37 _)).trans (Fr.setCell _ 38 _)).trans (Fr.setCell _ 39 _)).trans (Fr.setCell _ 40 _)))
  clear hw2 d35 d36 d37 d38 d39 d40 y36 y37 y38 y39 y40 H1 F1
  obtain ⟨k', hA', hst', hk', hss', -, -, c35, c36, c37⟩ := hL2.reads
  clear hA' hk' hss' hst' c36 c37
  have hlt2 := hL2.lt
  obtain ⟨c39, c40⟩ := hL2.c3940
  have z39 := hL2.fz 39
  have z40 := hL2.fz 40
  have H2 := Lib.hid hL2
  have S2 := Lib.hid (ST.out _ _ _ _ _ _ hL2)
  clear hL2
  by_cases g1 : hdB r = 34 ∨ hdB r = 39
  · as_aux_lemma =>
    have hx := HX.out
    unfold nxB at hx
    rw [if_pos g1] at hx
    by_cases g2 : (strB (hdB r) (tlB r)).1 = true
    · rw [if_pos g2] at hx
      obtain ⟨rfl, h2⟩ := Prod.mk.inj (Option.some.inj hx)
      obtain ⟨rfl, h3⟩ := Prod.mk.inj h2
      obtain ⟨rfl, h4⟩ := Prod.mk.inj h3
      have C := Lib.hid (strI b P s r k 0 0 0 (hdB r) R w2 H2.out g1 rfl (Prod.ext g2 h4))
      obtain ⟨cq, hcq⟩ : ∃ cq, hdB r = cq := ⟨_, rfl⟩
      rw [hcq] at c35 g1
      clear hx h2 h3 h4 g2 hcq HX
      rcases g1 with rfl | rfl
      all_goals
        go_wp2_with fail
        refine (C.out).mono ?_
        rintro e w3 ⟨rfl, h3, f3⟩
        have d39 := h3.c3940.1
        have y39 := h3.fz 39
        have H3 := Lib.hid h3
        have F3 := Lib.hid (F2.out.trans f3)
        clear h3 f3
        go_wp2_with fail
        go_end0
        exact nx_fin (H3.out.set39 36) (F3.out.trans (Fr.setCell _ 39 _))
    · rw [if_neg g2] at hx
      cases hx
  have HX1 := Lib.hid (show nxB1 r = some (kd, uo, fl, R) by rw [← HX.out]; unfold nxB; rw [if_neg g1]; rfl)
  have n1 : hdB r ≠ 34 := fun e => g1 (.inl e)
  have n2 : hdB r ≠ 39 := fun e => g1 (.inr e)
  clear HX g1
  by_cases g2 : hdB r = 35
  · as_aux_lemma =>
    have hx := HX1.out
    unfold nxB1 at hx
    rw [if_pos g2] at hx
    by_cases g3 : ncB (hdB (tlB r)) = true ∨ vescB (tlB r) = true
    · rw [if_pos g3] at hx
      obtain ⟨rfl, h2⟩ := Prod.mk.inj (Option.some.inj hx)
      obtain ⟨rfl, h3⟩ := Prod.mk.inj h2
      obtain ⟨hfl, h4⟩ := Prod.mk.inj h3
      rw [g2] at c35
      have RR := Lib.hid h4
      have FL := Lib.hid hfl
      have G3 := Lib.hid g3
      have N := Lib.hid (fun w => lexContinue (hdB (tlB r)) w)
      obtain ⟨r1, hr1⟩ : ∃ r1, tlB r = r1 := ⟨_, rfl⟩
      obtain ⟨x, hx1⟩ : ∃ x, ncB (hdB (tlB r)) = x := ⟨_, rfl⟩
      rw [hx1] at N
      rw [hr1] at S2 N RR FL
      have HXX := Lib.hid hx1
      have HR1 := Lib.hid hr1
      have A1 := Lib.hid (HA.out.tail)
      rw [hr1] at A1
      clear hx h2 h3 h4 g2 g3 n1 n2 HX1 hfl hr1 hx1
      go_wp2_with fail
      refine (S2.out).mono ?_
      rintro e w3 ⟨rfl, h3, f3⟩
      obtain ⟨-, -, -, -, -, -, -, d35, -, -⟩ := h3.reads
      have H3 := Lib.hid h3
      have F3 := Lib.hid (F2.out.trans f3)
      have V3 := Lib.hid (vescI b P s r1 k 0 0 0 w3 h3)
      have d39 := h3.c3940.1
      have y39 := h3.fz 39
      have hlt3 := h3.lt
      clear h3 f3 c35 c39 c40 z39 z40
      cases x
      · have hv : vescB r1 = true := by
          rcases G3.out with h | h
          · rw [HXX.out] at h; cases h
          · rw [← HR1.out]; exact h
        rw [hv] at V3
        clear hv
        go_wp2_with (go_at_call 96; refine (N.out _).mono ?_; rintro e w' ⟨rfl, rfl⟩)
        refine (V3.out).mono ?_
        rintro e w4 ⟨rfl, hb4⟩
        have e39 := (hb4.cell (p := ⟨b, 39, none⟩) hlt3).trans d39
        have x39 := (hb4.frozen (p := ⟨b, 39, none⟩) hlt3).trans y39
        have H4 := Lib.hid (H3.out.fr hb4)
        have F4 := Lib.hid (F3.out.trans (Fr.of hb4))
        clear hb4 d39 y39
        have W4 := Lib.hid (wouldI b P s r1 k 0 28 0 _ (H4.out.set39 28))
        obtain ⟨y, hy⟩ : ∃ y, wouldB r1 = y := ⟨_, rfl⟩
        rw [hy] at W4 FL
        clear hy
        go_wp2_with fail
        refine (W4.out).mono ?_
        rintro e w5 ⟨rfl, hb5⟩
        have H5 := Lib.hid ((H4.out.set39 28).fr hb5)
        have F5 := Lib.hid ((F4.out.trans (Fr.setCell _ 39 _)).trans (Fr.of hb5))
        have p40 := H5.out.c3940.2
        have q40 := H5.out.fz 40
        clear hb5
        cases y
        · have N5 := Lib.hid (nameI b P s _ r1 k 0 28 0 w5 H5.out A1.out)
          go_wp2_with fail
          refine (N5.out).mono ?_
          rintro e w6 ⟨nm, rfl, -, h6, f6⟩
          have H6 := Lib.hid h6
          have F6 := Lib.hid (F5.out.trans f6)
          clear h6 f6
          go_wp2_with fail
          go_end0
          have hfl : 0 = fl := by simpa using FL.out
          subst hfl
          exact nx_fin (by rw [← RR.out]; exact H6.out) F6.out
        · have N5 := Lib.hid (nameI b P s _ r1 k 0 28 1 _ (H5.out.set40 1) A1.out)
          go_wp2_with fail
          refine (N5.out).mono ?_
          rintro e w6 ⟨nm, rfl, -, h6, f6⟩
          have H6 := Lib.hid h6
          have F6 := Lib.hid ((F5.out.trans (Fr.setCell _ 40 _)).trans f6)
          clear h6 f6
          go_wp2_with fail
          go_end0
          have hfl : 1 = fl := by simpa using FL.out
          subst hfl
          exact nx_fin (by rw [← RR.out]; exact H6.out) F6.out
      · go_wp2_with (go_at_call 96; refine (N.out _).mono ?_; rintro e w' ⟨rfl, rfl⟩)
        have H4 := Lib.hid H3.out
        have F4 := Lib.hid F3.out
        have W4 := Lib.hid (wouldI b P s r1 k 0 28 0 _ (H4.out.set39 28))
        obtain ⟨y, hy⟩ : ∃ y, wouldB r1 = y := ⟨_, rfl⟩
        rw [hy] at W4 FL
        clear hy
        go_wp2_with fail
        refine (W4.out).mono ?_
        rintro e w5 ⟨rfl, hb5⟩
        have H5 := Lib.hid ((H4.out.set39 28).fr hb5)
        have F5 := Lib.hid ((F4.out.trans (Fr.setCell _ 39 _)).trans (Fr.of hb5))
        have p40 := H5.out.c3940.2
        have q40 := H5.out.fz 40
        clear hb5
        cases y
        · have N5 := Lib.hid (nameI b P s _ r1 k 0 28 0 w5 H5.out A1.out)
          go_wp2_with fail
          refine (N5.out).mono ?_
          rintro e w6 ⟨nm, rfl, -, h6, f6⟩
          have H6 := Lib.hid h6
          have F6 := Lib.hid (F5.out.trans f6)
          clear h6 f6
          go_wp2_with fail
          go_end0
          have hfl : 0 = fl := by simpa using FL.out
          subst hfl
          exact nx_fin (by rw [← RR.out]; exact H6.out) F6.out
        · have N5 := Lib.hid (nameI b P s _ r1 k 0 28 1 _ (H5.out.set40 1) A1.out)
          go_wp2_with fail
          refine (N5.out).mono ?_
          rintro e w6 ⟨nm, rfl, -, h6, f6⟩
          have H6 := Lib.hid h6
          have F6 := Lib.hid ((F5.out.trans (Fr.setCell _ 40 _)).trans f6)
          clear h6 f6
          go_wp2_with fail
          go_end0
          have hfl : 1 = fl := by simpa using FL.out
          subst hfl
          exact nx_fin (by rw [← RR.out]; exact H6.out) F6.out
    · rw [if_neg g3] at hx
      cases hx
  have HX2 := Lib.hid (show nxB2 r = some (kd, uo, fl, R) by rw [← HX1.out]; unfold nxB1; rw [if_neg g2])
  clear HX1
  by_cases g3 : hdB r = 58
  · as_aux_lemma =>
    have hx := HX2.out
    unfold nxB2 at hx
    rw [if_pos g3] at hx
    obtain ⟨rfl, h2⟩ := Prod.mk.inj (Option.some.inj hx)
    obtain ⟨rfl, h3⟩ := Prod.mk.inj h2
    obtain ⟨rfl, h4⟩ := Prod.mk.inj h3
    rw [g3] at c35
    rw [h4] at S2
    clear hx h2 h3 h4 n1 n2 g2 g3 HX2
    go_wp2_with fail
    refine (S2.out).mono ?_
    rintro e w3 ⟨rfl, h3, f3⟩
    have d39 := h3.c3940.1
    have y39 := h3.fz 39
    have H3 := Lib.hid h3
    have F3 := Lib.hid (F2.out.trans f3)
    clear h3 f3
    go_wp2_with fail
    go_end0
    exact nx_fin (H3.out.set39 9) (F3.out.trans (Fr.setCell _ 39 _))
  have HX3 := Lib.hid (show nxB3 r = some (kd, uo, fl, R) by rw [← HX2.out]; unfold nxB2; rw [if_neg g3])
  clear HX2
  by_cases g4 : hdB r = 64
  · as_aux_lemma =>
    have hx := HX3.out
    unfold nxB3 at hx
    rw [if_pos g4] at hx
    by_cases g5 : wouldB (tlB r) = true
    · rw [if_pos g5] at hx
      obtain ⟨rfl, h2⟩ := Prod.mk.inj (Option.some.inj hx)
      obtain ⟨rfl, h3⟩ := Prod.mk.inj h2
      obtain ⟨rfl, h4⟩ := Prod.mk.inj h3
      rw [g4] at c35
      obtain ⟨r1, hr1⟩ : ∃ r1, tlB r = r1 := ⟨_, rfl⟩
      have A1 := Lib.hid (HA.out.tail)
      have RR := Lib.hid h4
      rw [hr1] at A1 S2 RR g5
      have G5 := Lib.hid g5
      clear hx h2 h3 h4 n1 n2 g2 g3 g4 g5 HX3 hr1
      go_wp2_with fail
      refine (S2.out).mono ?_
      rintro e w3 ⟨rfl, h3, f3⟩
      have H3 := Lib.hid h3
      have F3 := Lib.hid (F2.out.trans f3)
      have W3 := Lib.hid (wouldI b P s r1 k 0 0 0 w3 h3)
      rw [G5.out] at W3
      clear h3 f3 c35 c39 c40 z39 z40
      go_wp2_with fail
      refine (W3.out).mono ?_
      rintro e w4 ⟨rfl, hb4⟩
      have H4 := Lib.hid (H3.out.fr hb4)
      have F4 := Lib.hid (F3.out.trans (Fr.of hb4))
      have N4 := Lib.hid (nameI b P s _ r1 k 0 0 0 w4 H4.out A1.out)
      clear hb4
      go_wp2_with fail
      refine (N4.out).mono ?_
      rintro e w5 ⟨nm, rfl, -, h5, f5⟩
      have d39 := h5.c3940.1
      have y39 := h5.fz 39
      have H5 := Lib.hid h5
      have F5 := Lib.hid (F4.out.trans f5)
      clear h5 f5
      go_wp2_with fail
      go_end0
      exact nx_fin (by rw [← RR.out]; exact H5.out.set39 1) (F5.out.trans (Fr.setCell _ 39 _))
    · rw [if_neg g5] at hx
      cases hx
  have HX4 := Lib.hid (show nxB4 r = some (kd, uo, fl, R) by rw [← HX3.out]; unfold nxB3; rw [if_neg g4])
  clear HX3
  by_cases g5 : dgB (hdB r) = true
  · as_aux_lemma =>
    have hx := HX4.out
    unfold nxB4 at hx
    rw [if_pos g5] at hx
    have g6 : 48 ≤ hdB r ∧ hdB r ≤ 57 := of_decide_eq_true g5
    obtain ⟨h1, h2⟩ := Prod.mk.inj (Option.some.inj hx)
    obtain ⟨h3, h4⟩ := Prod.mk.inj h2
    obtain ⟨rfl, h5⟩ := Prod.mk.inj h4
    have C := Lib.hid (numericI b P s r k 0 0 0 w2 H2.out HA.out)
    have K1 := Lib.hid h1
    have K2 := Lib.hid h3
    have K3 := Lib.hid h5
    obtain ⟨cq, hcq⟩ : ∃ cq, hdB r = cq := ⟨_, rfl⟩
    rw [hcq] at c35 g6
    have g7 : cq = 48 ∨ cq = 49 ∨ cq = 50 ∨ cq = 51 ∨ cq = 52 ∨ cq = 53 ∨ cq = 54 ∨ cq = 55 ∨ cq = 56 ∨ cq = 57 := by omega
    clear hx h1 h2 h3 h4 h5 n1 n2 g2 g3 g4 g5 g6 hcq HX4
    rcases g7 with rfl | rfl | rfl | rfl | rfl | rfl | rfl | rfl | rfl | rfl
    all_goals
      go_wp2_with fail
      refine (C.out).mono ?_
      rintro e w3 ⟨rfl, h3, f3⟩
      have d39 := h3.c3940.1
      have y39 := h3.fz 39
      have H3 := Lib.hid h3
      have F3 := Lib.hid (F2.out.trans f3)
      clear h3 f3
      go_wp2_with fail
      go_end0
      exact nx_num K1.out K2.out K3.out (H3.out.set39 _) (F3.out.trans (Fr.setCell _ 39 _))
  have HX5 := Lib.hid (show nxB5 r = some (kd, uo, fl, R) by rw [← HX4.out]; unfold nxB4; rw [if_neg g5])
  clear HX4
  by_cases g6 : hdB r = 45
  · as_aux_lemma =>
    have hx := HX5.out
    unfold nxB5 at hx
    rw [if_pos g6] at hx
    by_cases g7 : cntB r = false ∧ ¬ (hdB (tlB r) = 45 ∧ hdB (tlB (tlB r)) = 62) ∧ wouldB r = true ∧ (identB r).2.1 = false
    · rw [if_pos g7] at hx
      obtain ⟨g8, g9, g10, g11⟩ := g7
      obtain ⟨h1, h2⟩ := Prod.mk.inj (Option.some.inj hx)
      obtain ⟨rfl, h3⟩ := Prod.mk.inj h2
      obtain ⟨rfl, h5⟩ := Prod.mk.inj h3
      rw [g6] at c35
      have C := Lib.hid (fun w h => idlI b P s r k 0 0 0 kd R w h HA.out (Prod.ext h1 (Prod.ext g11 h5)))
      have CN := Lib.hid (cntI b P s r k 0 0 0 w2 H2.out)
      rw [g8] at CN
      have WW := Lib.hid (fun w h => wouldI b P s r k 0 0 0 w h)
      rw [g10] at WW
      have A1 := HA.out.tail
      obtain ⟨K, hK⟩ : ∃ K, k + widB r = K := ⟨_, rfl⟩
      rw [hK] at A1
      have NA := Lib.hid (no_arrow A1 g9)
      obtain ⟨k', hA', -, hk', hss', c10, c33, -, -, -⟩ := H2.out.reads
      obtain rfl := HA.out.unique hA'
      rw [hK] at c33 hk'
      clear hx h1 h2 h3 h5 n1 n2 g2 g3 g4 g5 g6 g8 g9 g10 g11 HX5 hA' A1 hK
      go_wp2_with fail
      refine (CN.out).mono ?_
      rintro e w' ⟨rfl, rfl⟩
      by_cases g12 : K + 2 ≤ s.size
      · have e1 : (((s.extract K (K + 2)).toList) == [45, 62]) = false := NA.out
        have i0 : (0 : Int) ≤ (K : Int) := by omega
        have i1 : (K : Int) ≤ (K : Int) + 2 := by omega
        have i2 : (K : Int) + 2 ≤ (s.size : Int) := by omega
        have i3 : ((K : Int) + 2).toNat = K + 2 := by omega
        have i4 : IntKind.i64.wrap ((K : Int) + 2) = (K : Int) + 2 := IntWalk.i64_in _ (by omega)
        go_wp2_with fail
        go_quiet (fail)
        clear i4 i3
        have H3 := Lib.hid (show LR b P s r k 0 0 0 (w2.drewN nq) from H2.out.fr (below_draws _ _ _))
        have F3 := Lib.hid (F2.out.trans (Fr.drewN b nq w2))
        go_wp2_with fail
        refine (WW.out _ H3.out).mono ?_
        rintro e w4 ⟨rfl, hb4⟩
        have H4 := Lib.hid (H3.out.fr hb4)
        have F4 := Lib.hid (F3.out.trans (Fr.of hb4))
        clear hb4 c35 c39 c40 z39 z40 c10 c33
        go_wp2_with fail
        refine (C.out _ H4.out).mono ?_
        rintro e w9 ⟨rfl, h9, f9⟩
        have d39 := h9.c3940.1
        have y39 := h9.fz 39
        have H9 := Lib.hid h9
        have F9 := Lib.hid (F4.out.trans f9)
        clear h9 f9
        go_wp2_with fail
        go_end0
        exact nx_fin (H9.out.set39 _) (F9.out.trans (Fr.setCell _ 39 _))
      · have i2 : decide ((K : Int) + 2 ≤ (s.size : Int)) = false := decide_eq_false (by omega)
        have i4 : IntKind.i64.wrap ((K : Int) + 2) = (K : Int) + 2 := IntWalk.i64_in _ (by omega)
        go_wp2_with fail
        go_quiet (fail)
        clear i4
        have H3 := Lib.hid (show LR b P s r k 0 0 0 (w2.drewN nq) from H2.out.fr (below_draws _ _ _))
        have F3 := Lib.hid (F2.out.trans (Fr.drewN b nq w2))
        go_wp2_with fail
        refine (WW.out _ H3.out).mono ?_
        rintro e w4 ⟨rfl, hb4⟩
        have H4 := Lib.hid (H3.out.fr hb4)
        have F4 := Lib.hid (F3.out.trans (Fr.of hb4))
        clear hb4 c35 c39 c40 z39 z40 c10 c33
        go_wp2_with fail
        refine (C.out _ H4.out).mono ?_
        rintro e w9 ⟨rfl, h9, f9⟩
        have d39 := h9.c3940.1
        have y39 := h9.fz 39
        have H9 := Lib.hid h9
        have F9 := Lib.hid (F4.out.trans f9)
        clear h9 f9
        go_wp2_with fail
        go_end0
        exact nx_fin (H9.out.set39 _) (F9.out.trans (Fr.setCell _ 39 _))
    · rw [if_neg g7] at hx
      cases hx
  have HX6 := Lib.hid (show nxB6 r = some (kd, uo, fl, R) by rw [← HX5.out]; unfold nxB5; rw [if_neg g6])
  clear HX5
  by_cases g7 : hdB r = 92
  · as_aux_lemma =>
    have hx := HX6.out
    unfold nxB6 at hx
    rw [if_pos g7] at hx
    by_cases g8 : vescB r = true ∧ (identB r).2.1 = false
    · rw [if_pos g8] at hx
      obtain ⟨g9, g11⟩ := g8
      obtain ⟨h1, h2⟩ := Prod.mk.inj (Option.some.inj hx)
      obtain ⟨rfl, h3⟩ := Prod.mk.inj h2
      obtain ⟨rfl, h5⟩ := Prod.mk.inj h3
      rw [g7] at c35
      have C := Lib.hid (fun w h => idlI b P s r k 0 0 0 kd R w h HA.out (Prod.ext h1 (Prod.ext g11 h5)))
      have V := Lib.hid (vescI b P s r k 0 0 0 w2 H2.out)
      rw [g9] at V
      clear hx h1 h2 h3 h5 n1 n2 g2 g3 g4 g5 g6 g7 g9 g11 HX6
      go_wp2_with fail
      refine (V.out).mono ?_
      rintro e w3 ⟨rfl, hb3⟩
      have H3 := Lib.hid (H2.out.fr hb3)
      have F3 := Lib.hid (F2.out.trans (Fr.of hb3))
      clear hb3 c35 c39 c40 z39 z40
      go_wp2_with fail
      refine (C.out _ H3.out).mono ?_
      rintro e w9 ⟨rfl, h9, f9⟩
      have d39 := h9.c3940.1
      have y39 := h9.fz 39
      have H9 := Lib.hid h9
      have F9 := Lib.hid (F3.out.trans f9)
      clear h9 f9
      go_wp2_with fail
      go_end0
      exact nx_fin (H9.out.set39 _) (F9.out.trans (Fr.setCell _ 39 _))
    · rw [if_neg g8] at hx
      cases hx
  have HX7 := Lib.hid (show nxB7 r = some (kd, uo, fl, R) by rw [← HX6.out]; unfold nxB6; rw [if_neg g7])
  clear HX6
  have hx := HX7.out
  unfold nxB7 at hx
  by_cases g8 : nsB (hdB r) = true
  · as_aux_lemma =>
    rw [if_pos g8] at hx
    by_cases g9 : (identB r).2.1 = false
    · rw [if_pos g9] at hx
      obtain ⟨h1, h2⟩ := Prod.mk.inj (Option.some.inj hx)
      obtain ⟨rfl, h3⟩ := Prod.mk.inj h2
      obtain ⟨rfl, h5⟩ := Prod.mk.inj h3
      have C := Lib.hid (fun w h => idlI b P s r k 0 0 0 kd R w h HA.out (Prod.ext h1 (Prod.ext g9 h5)))
      have N := Lib.hid (fun w => isNameStart (hdB r) w)
      rw [g8] at N
      have g10 : (97 ≤ hdB r ∧ hdB r ≤ 122) ∨ (65 ≤ hdB r ∧ hdB r ≤ 90) ∨ hdB r = 95 ∨ 128 ≤ hdB r ∨ hdB r = 0 := of_decide_eq_true g8
      obtain ⟨cq, hcq⟩ : ∃ cq, hdB r = cq := ⟨_, rfl⟩
      rw [hcq] at c35 N g10
      clear hx h1 h2 h3 h5 n1 n2 g2 g3 g4 g5 g6 g7 g8 g9 HX7 hcq
      have t0 : (cq == -1) = false := beq_eq_false_iff_ne.2 (by omega)
      have t1 : (cq == 47) = false := beq_eq_false_iff_ne.2 (by omega)
      have t2 : (cq == 32) = false := beq_eq_false_iff_ne.2 (by omega)
      have t3 : (cq == 9) = false := beq_eq_false_iff_ne.2 (by omega)
      have t4 : (cq == 10) = false := beq_eq_false_iff_ne.2 (by omega)
      have t5 : (cq == 13) = false := beq_eq_false_iff_ne.2 (by omega)
      have t6 : (cq == 12) = false := beq_eq_false_iff_ne.2 (by omega)
      have t7 : (cq == 34) = false := beq_eq_false_iff_ne.2 (by omega)
      have t8 : (cq == 39) = false := beq_eq_false_iff_ne.2 (by omega)
      have t9 : (cq == 35) = false := beq_eq_false_iff_ne.2 (by omega)
      have t10 : (cq == 40) = false := beq_eq_false_iff_ne.2 (by omega)
      have t11 : (cq == 41) = false := beq_eq_false_iff_ne.2 (by omega)
      have t12 : (cq == 91) = false := beq_eq_false_iff_ne.2 (by omega)
      have t13 : (cq == 93) = false := beq_eq_false_iff_ne.2 (by omega)
      have t14 : (cq == 123) = false := beq_eq_false_iff_ne.2 (by omega)
      have t15 : (cq == 125) = false := beq_eq_false_iff_ne.2 (by omega)
      have t16 : (cq == 44) = false := beq_eq_false_iff_ne.2 (by omega)
      have t17 : (cq == 58) = false := beq_eq_false_iff_ne.2 (by omega)
      have t18 : (cq == 43) = false := beq_eq_false_iff_ne.2 (by omega)
      have t19 : (cq == 46) = false := beq_eq_false_iff_ne.2 (by omega)
      have t20 : (cq == 45) = false := beq_eq_false_iff_ne.2 (by omega)
      have t21 : (cq == 60) = false := beq_eq_false_iff_ne.2 (by omega)
      have t22 : (cq == 64) = false := beq_eq_false_iff_ne.2 (by omega)
      have t23 : (cq == 92) = false := beq_eq_false_iff_ne.2 (by omega)
      have t24 : (cq == 48) = false := beq_eq_false_iff_ne.2 (by omega)
      have t25 : (cq == 49) = false := beq_eq_false_iff_ne.2 (by omega)
      have t26 : (cq == 50) = false := beq_eq_false_iff_ne.2 (by omega)
      have t27 : (cq == 51) = false := beq_eq_false_iff_ne.2 (by omega)
      have t28 : (cq == 52) = false := beq_eq_false_iff_ne.2 (by omega)
      have t29 : (cq == 53) = false := beq_eq_false_iff_ne.2 (by omega)
      have t30 : (cq == 54) = false := beq_eq_false_iff_ne.2 (by omega)
      have t31 : (cq == 55) = false := beq_eq_false_iff_ne.2 (by omega)
      have t32 : (cq == 56) = false := beq_eq_false_iff_ne.2 (by omega)
      have t33 : (cq == 57) = false := beq_eq_false_iff_ne.2 (by omega)
      have t34 : (cq == 59) = false := beq_eq_false_iff_ne.2 (by omega)
      have t35 : (cq == 62) = false := beq_eq_false_iff_ne.2 (by omega)
      have t36 : (cq == 126) = false := beq_eq_false_iff_ne.2 (by omega)
      have t37 : (cq == 38) = false := beq_eq_false_iff_ne.2 (by omega)
      have t38 : (cq == 42) = false := beq_eq_false_iff_ne.2 (by omega)
      have t39 : (cq == 124) = false := beq_eq_false_iff_ne.2 (by omega)
      have t40 : (cq == 33) = false := beq_eq_false_iff_ne.2 (by omega)
      have t41 : (cq == 61) = false := beq_eq_false_iff_ne.2 (by omega)
      have t42 : (cq == 94) = false := beq_eq_false_iff_ne.2 (by omega)
      have t43 : (cq == 36) = false := beq_eq_false_iff_ne.2 (by omega)
      clear g10
      go_wp2_with (go_at_call 47; refine (N.out _).mono ?_; rintro e w' ⟨rfl, rfl⟩)
      refine (C.out _ H2.out).mono ?_
      rintro e w9 ⟨rfl, h9, f9⟩
      have d39 := h9.c3940.1
      have y39 := h9.fz 39
      have H9 := Lib.hid h9
      have F9 := Lib.hid (F2.out.trans f9)
      clear h9 f9
      go_wp2_with fail
      go_end0
      exact nx_fin (H9.out.set39 _) (F9.out.trans (Fr.setCell _ 39 _))
    · rw [if_neg g9] at hx
      cases hx
  · rw [if_neg g8] at hx
    cases hx
end Go.Proofs.YtmgkccnfhkcncaaGreatDoor
