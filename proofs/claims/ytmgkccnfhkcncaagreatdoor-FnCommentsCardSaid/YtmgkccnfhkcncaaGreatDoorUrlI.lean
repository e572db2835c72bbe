/-
  css_lexer's lexer: consumeURL, where the address is a whole one.
-/
import Derived.Test.YtmgkccnfhkcncaaGreatDoorLoop
import Derived.WalkMore
namespace Go.Proofs.YtmgkccnfhkcncaaGreatDoor
open Go.RowKit

set_option maxHeartbeats 800000 in
theorem lexUnprintable (c : Int) (w : World) (h : 0 ≤ c) : Calls Tryz.prog 139 #[.int .i32 c] w fun e w' => e = .returned (.bool (unpB c)) ∧ w = w' := by
  go_enter Tryz.func139, Tryz.ntmps139
  go_wp2
  all_goals
    go_ret
    exact ⟨ret_bool (by unfold unpB; first | exact (decide_eq_true (by omega)).symm | exact (decide_eq_false (by omega)).symm | (rw [Bool.eq_iff_iff]; simp; omega)), rfl⟩
theorem urlB_go {r y : List UInt8} (h : urlStep r = .inr y) : urlB r = urlB y := loopB_go urlStep_lt h
theorem urlB_end {r : List UInt8} {a : Option (Bool × List UInt8) × List UInt8} (h : urlStep r = .inl a) : urlB r = a := loopB_end h
/-- The loop of consumeURL. -/
def URelI (b : Nat) (P : Nat → Option Value) (s : ByteArray) (st : Nat) (uo kd fl : Int) (w : World) (x : Option (Bool × List UInt8) × List UInt8) (wr : World) : Prop :=
  ∃ r', LR b P s r' st uo kd fl wr ∧ Fr b w wr ∧ urlB r' = x
/-- Its inner loop. -/
def WRelI (b : Nat) (P : Nat → Option Value) (s : ByteArray) (st : Nat) (uo kd fl : Int) (w : World) (T : List UInt8) (wr : World) : Prop :=
  ∃ r', LR b P s r' st uo kd fl wr ∧ Fr b w wr ∧ spcB r' = T

set_option maxHeartbeats 8000000 in
set_option maxRecDepth 1000000 in
theorem urlI (b : Nat) (P : Nat → Option Value) (s : ByteArray) (r : List UInt8) (st : Nat) (uo kd fl m : Int) (R X : List UInt8) (w : World) (h : LR b P s r st uo kd fl w) (hu : urlB r = (some (false, R), X)) :
    Calls Tryz.prog 123 #[.pointer (some ⟨b, 0, none⟩), .agg #[.int .i32 m]] w fun e w' => e = .returned (.int .u8 37) ∧ LR b P s R st uo kd fl w' ∧ Fr b w w' := by
  have ST := Lib.hid (fun r w (h : LR b P s r st uo kd fl w) => stepL b P s r st uo kd fl w h)
  have EV := Lib.hid (fun r w (h : LR b P s r st uo kd fl w) => escI b P s r st uo kd fl w h)
  have VE := Lib.hid (fun r w (h : LR b P s r st uo kd fl w) => vescI b P s r st uo kd fl w h)
  have H0 := Lib.hid h
  have HU := Lib.hid hu
  clear h hu
  go_enter Tryz.func123, Tryz.ntmps123
  go_wp2_with fail
  go_step3
  go_wp2_with fail
  go_step3
  go_wp2_with fail
  go_loopw [] (fun wr => URelI b P s st uo kd fl w (some (false, R), X) wr) (fun wr => leftI b s wr)
  case atStart => exact ⟨r, H0.out.fr ((Below.refl _ _).alloc (Nat.le_refl _) _), Fr.of ((Below.refl _ _).alloc (Nat.le_refl _) _), HU.out⟩
  case round =>
    obtain ⟨r', hL, hF, hx⟩ := hrel
    obtain ⟨-, -, -, -, -, -, -, d35, -, -⟩ := hL.reads
    have M := Lib.hid hL.left
    have HL := Lib.hid hL
    have HF := Lib.hid hF
    have S2 := Lib.hid (ST.out _ _ hL)
    have V2 := Lib.hid (VE.out _ _ hL)
    have E2 := Lib.hid (EV.out r')
    have HX := Lib.hid hx
    clear hL hF hx
    by_cases g1 : hdB r' = 41
    · have e1 := urlB_end (r := r') (a := (some (false, tlB r'), [])) (by unfold urlStep; rw [if_pos g1])
      have e2 := HX.out
      rw [e1] at e2
      have RR := Lib.hid (show tlB r' = R from (Prod.mk.inj (Option.some.inj (Prod.mk.inj e2).1)).2)
      rw [g1] at d35
      clear g1 e1 e2
      go_wp2_with fail
      refine (S2.out).mono ?_
      rintro e w2 ⟨rfl, h2, f2⟩
      go_wp2_with fail
      rw [Exit.noGoto_ret]
      go_ret
      exact ⟨rfl, by rw [← RR.out]; exact h2, HF.out.trans f2⟩
    · by_cases g2 : hdB r' = -1
      · have e1 := urlB_end (r := r') (a := (some (true, r'), [])) (by unfold urlStep; rw [if_neg g1, if_pos g2])
        have e2 := HX.out
        rw [e1] at e2
        exact absurd (Prod.mk.inj (Option.some.inj (Prod.mk.inj e2).1)).1 (by decide)
      · have hl1 : (tlB r').length < r'.length := tl_lt rfl g2
        by_cases g3 : spB (hdB r') = true
        · by_cases g4 : hdB (spcB (tlB r')) = 41
          · have e1 := urlB_end (r := r') (a := (some (false, tlB (spcB (tlB r'))), [])) (by unfold urlStep; rw [if_neg g1, if_neg g2, if_pos g3, if_pos g4])
            have e2 := HX.out
            rw [e1] at e2
            have RR := Lib.hid (show tlB (spcB (tlB r')) = R from (Prod.mk.inj (Option.some.inj (Prod.mk.inj e2).1)).2)
            obtain ⟨T, hT⟩ : ∃ T, spcB (tlB r') = T := ⟨_, rfl⟩
            rw [hT] at g4 RR
            have HT := Lib.hid hT
            have G4 := Lib.hid g4
            have g5 : hdB r' = 10 ∨ hdB r' = 13 ∨ hdB r' = 12 ∨ hdB r' = 9 ∨ hdB r' = 32 := of_decide_eq_true g3
            obtain ⟨cq, hcq⟩ : ∃ cq, hdB r' = cq := ⟨_, rfl⟩
            rw [hcq] at d35 g5
            clear g1 g2 g3 g4 e1 e2 hT hcq hl1
            rcases g5 with rfl | rfl | rfl | rfl | rfl
            all_goals
              go_wp2_with fail
              refine (S2.out).mono ?_
              rintro e w2 ⟨rfl, h2, f2⟩
              have H2 := Lib.hid h2
              have F2 := Lib.hid (HF.out.trans f2)
              clear h2 f2 d35
              go_wp2_with fail
              go_loopw [] (fun wr => WRelI b P s st uo kd fl w T wr) (fun wr => leftI b s wr)
              case atStart => exact ⟨_, H2.out, F2.out, HT.out⟩
              case round =>
                obtain ⟨r2, hL2, hF2, hx2⟩ := hrel
                obtain ⟨-, -, -, -, -, -, -, d35, -, -⟩ := hL2.reads
                have M2 := Lib.hid hL2.left
                have HL2 := Lib.hid hL2
                have HF2 := Lib.hid hF2
                have S3 := Lib.hid (ST.out _ _ hL2)
                clear hL2 hF2
                have W := Lib.hid (fun w => lexSpace (hdB r2) w)
                obtain ⟨cq2, hcq2⟩ : ∃ cq, hdB r2 = cq := ⟨_, rfl⟩
                rw [hcq2] at d35 W
                have HC2 := Lib.hid hcq2
                clear hcq2
                by_cases g7 : spB cq2 = true
                · have X2 := Lib.hid (show spcB (tlB r2) = T by rw [← spcB_go (r := r2) (by rw [HC2.out]; exact g7)]; exact hx2)
                  have L3 := Lib.hid (show (tlB r2).length < r2.length from tl_lt rfl (by rw [HC2.out]; intro e; rw [e] at g7; exact absurd g7 (by decide)))
                  rw [g7] at W
                  clear g7 hx2
                  go_wp2_with (go_at_call 62; refine (W.out _).mono ?_; rintro e w' ⟨rfl, rfl⟩)
                  refine (S3.out).mono ?_
                  rintro e w4 ⟨rfl, h4, f4⟩
                  have H4 := Lib.hid h4
                  have F4 := Lib.hid (HF2.out.trans f4)
                  clear h4 f4 d35
                  go_wp2_with fail
                  go_roundw
                  case rel => exact ⟨_, H4.out, F4.out, X2.out⟩
                  case measure => rw [H4.out.left, M2.out]; exact L3.out
                · have g8 := Bool.eq_false_iff.2 g7
                  have e3 : r2 = T := by rw [← spcB_stop (r := r2) (by rw [HC2.out]; exact g8)]; exact hx2
                  have hc41 : cq2 = 41 := by rw [← HC2.out, e3]; exact G4.out
                  have E3 := Lib.hid e3
                  rw [g8] at W
                  subst hc41
                  clear g7 g8 hx2 e3
                  go_wp2_with (go_at_call 62; refine (W.out _).mono ?_; rintro e w' ⟨rfl, rfl⟩)
                  refine (S3.out).mono ?_
                  rintro e w4 ⟨rfl, h4, f4⟩
                  go_wp2_with fail
                  rw [Exit.noGoto_ret]
                  go_ret
                  exact ⟨rfl, by rw [← RR.out, ← E3.out]; exact h4, HF2.out.trans f4⟩
          · exfalso
            have e2 := HX.out
            by_cases g5 : hdB (spcB (tlB r')) = -1
            · have e1 := urlB_end (r := r') (a := (some (true, spcB (tlB r')), [])) (by unfold urlStep; rw [if_neg g1, if_neg g2, if_pos g3, if_neg g4, if_pos g5])
              rw [e1] at e2
              exact absurd (Prod.mk.inj (Option.some.inj (Prod.mk.inj e2).1)).1 (by decide)
            · have e1 := urlB_end (r := r') (a := (none, spcB (tlB r'))) (by unfold urlStep; rw [if_neg g1, if_neg g2, if_pos g3, if_neg g4, if_neg g5])
              rw [e1] at e2
              cases (Prod.mk.inj e2).1
        · by_cases g4 : hdB r' = 34 ∨ hdB r' = 39 ∨ hdB r' = 40
          · exfalso
            have e2 := HX.out
            have e1 := urlB_end (r := r') (a := (none, r')) (by unfold urlStep; rw [if_neg g1, if_neg g2, if_neg g3, if_pos g4])
            rw [e1] at e2
            cases (Prod.mk.inj e2).1
          · by_cases g5 : hdB r' = 92
            · cases hv : vescB r' with
              | false =>
                exfalso
                have e2 := HX.out
                have e1 := urlB_end (r := r') (a := (none, r')) (by unfold urlStep; rw [if_neg g1, if_neg g2, if_neg g3, if_neg g4, if_pos g5, if_neg (by rw [hv]; decide)])
                rw [e1] at e2
                cases (Prod.mk.inj e2).1
              | true =>
                have e1 := urlB_go (r := r') (y := (escV r').2) (by unfold urlStep; rw [if_neg g1, if_neg g2, if_neg g3, if_neg g4, if_pos g5, if_pos hv])
                have X2 := Lib.hid (show urlB (escV r').2 = (some (false, R), X) by rw [← e1]; exact HX.out)
                have L3 := Lib.hid (show (escV r').2.length < r'.length by have := escV_le r'; omega)
                rw [g5] at d35
                rw [hv] at V2
                clear g1 g2 g3 g4 g5 e1 hv hl1
                go_wp2_with fail
                refine (V2.out).mono ?_
                rintro e w2 ⟨rfl, hb2⟩
                have H2 := Lib.hid (HL.out.fr hb2)
                have F2 := Lib.hid (HF.out.trans (Fr.of hb2))
                clear hb2
                go_wp2_with fail
                refine (E2.out _ H2.out).mono ?_
                rintro e w3 ⟨rfl, h3, f3⟩
                have H3 := Lib.hid h3
                have F3 := Lib.hid (F2.out.trans f3)
                clear h3 f3 d35
                go_wp2_with fail
                go_roundw
                case rel => exact ⟨_, H3.out, F3.out, X2.out⟩
                case measure => rw [H3.out.left, M.out]; exact L3.out
            · cases hv : unpB (hdB r') with
              | true =>
                exfalso
                have e2 := HX.out
                have e1 := urlB_end (r := r') (a := (none, r')) (by unfold urlStep; rw [if_neg g1, if_neg g2, if_neg g3, if_neg g4, if_neg g5, if_pos hv])
                rw [e1] at e2
                cases (Prod.mk.inj e2).1
              | false =>
                have e1 := urlB_go (r := r') (y := tlB r') (by unfold urlStep; rw [if_neg g1, if_neg g2, if_neg g3, if_neg g4, if_neg g5, if_neg (by rw [hv]; decide)])
                have X2 := Lib.hid (show urlB (tlB r') = (some (false, R), X) by rw [← e1]; exact HX.out)
                have L3 := Lib.hid hl1
                have g0 := (hdB_range r').1
                have NP := Lib.hid (fun w => lexUnprintable (hdB r') w (by omega))
                rw [hv] at NP
                have g6 : ¬ (hdB r' = 10 ∨ hdB r' = 13 ∨ hdB r' = 12 ∨ hdB r' = 9 ∨ hdB r' = 32) := of_decide_eq_false (Bool.eq_false_iff.2 g3)
                obtain ⟨cq, hcq⟩ : ∃ cq, hdB r' = cq := ⟨_, rfl⟩
                rw [hcq] at d35 NP g1 g2 g4 g5 g6
                have t1 : (cq == 41) = false := beq_eq_false_iff_ne.2 g1
                have t2 : (cq == -1) = false := beq_eq_false_iff_ne.2 g2
                have t3 : (cq == 92) = false := beq_eq_false_iff_ne.2 g5
                have t4 : (cq == 34) = false := beq_eq_false_iff_ne.2 (fun e => g4 (.inl e))
                have t5 : (cq == 39) = false := beq_eq_false_iff_ne.2 (fun e => g4 (.inr (.inl e)))
                have t6 : (cq == 40) = false := beq_eq_false_iff_ne.2 (fun e => g4 (.inr (.inr e)))
                have t7 : (cq == 10) = false := beq_eq_false_iff_ne.2 (fun e => g6 (.inl e))
                have t8 : (cq == 13) = false := beq_eq_false_iff_ne.2 (fun e => g6 (.inr (.inl e)))
                have t9 : (cq == 12) = false := beq_eq_false_iff_ne.2 (fun e => g6 (.inr (.inr (.inl e))))
                have t10 : (cq == 9) = false := beq_eq_false_iff_ne.2 (fun e => g6 (.inr (.inr (.inr (.inl e)))))
                have t11 : (cq == 32) = false := beq_eq_false_iff_ne.2 (fun e => g6 (.inr (.inr (.inr (.inr e)))))
                clear g0 g1 g2 g3 g4 g5 g6 e1 hv hl1 hcq
                go_wp2_with (go_at_call 139; refine (NP.out _).mono ?_; rintro e w' ⟨rfl, rfl⟩)
                refine (S2.out).mono ?_
                rintro e w2 ⟨rfl, h2, f2⟩
                have H2 := Lib.hid h2
                have F2 := Lib.hid (HF.out.trans f2)
                clear h2 f2 d35
                go_wp2_with fail
                go_roundw
                case rel => exact ⟨_, H2.out, F2.out, X2.out⟩
                case measure => rw [H2.out.left, M.out]; exact L3.out
end Go.Proofs.YtmgkccnfhkcncaaGreatDoor
