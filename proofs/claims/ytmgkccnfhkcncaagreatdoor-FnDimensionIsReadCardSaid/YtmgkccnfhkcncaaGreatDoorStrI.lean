/-
  css_lexer's lexer: consumeString, where the string ends.
-/
import Derived.Test.YtmgkccnfhkcncaaGreatDoorLoopI
namespace Go.Proofs.YtmgkccnfhkcncaaGreatDoor
open Go.RowKit

theorem strB_go {q : Int} {r y : List UInt8} (h : strStep q r = .inr y) : strB q r = strB q y := loopB_go (strStep_lt q) h
theorem strB_bad {q : Int} {r : List UInt8} (h1 : hdB r = -1 ∨ nlB (hdB r) = true) : strB q r = (false, r) := by
  refine loopB_end ?_
  unfold strStep
  have : ¬ hdB r = 92 := by
    rcases h1 with h1 | h1
    · omega
    · have := of_decide_eq_true h1; omega
  rw [if_neg this, if_pos h1]
theorem strB_quote {q : Int} {r : List UInt8} (hq : q = 34 ∨ q = 39) (h : hdB r = q) : strB q r = (true, tlB r) := by
  refine loopB_end ?_
  unfold strStep
  rw [if_neg (by omega), if_neg (by rw [h]; unfold nlB; simp; omega), if_pos h]
/-- The loop of consumeString. -/
def SRelI (b : Nat) (P : Nat → Option Value) (s : ByteArray) (st : Nat) (uo kd fl : Int) (w : World) (q : Int) (x : Bool × List UInt8) (wr : World) : Prop :=
  ∃ r', LR b P s r' st uo kd fl wr ∧ Fr b w wr ∧ strB q r' = x

set_option maxHeartbeats 4000000 in
set_option maxRecDepth 1000000 in
theorem strI (b : Nat) (P : Nat → Option Value) (s : ByteArray) (r : List UInt8) (st : Nat) (uo kd fl : Int) (q : Int) (R : List UInt8) (w : World) (h : LR b P s r st uo kd fl w) (hq : q = 34 ∨ q = 39) (hr : hdB r = q) (hs : strB q (tlB r) = (true, R)) :
    Calls Tryz.prog 95 #[.pointer (some ⟨b, 0, none⟩)] w fun e w' => e = .returned (.int .u8 36) ∧ LR b P s R st uo kd fl w' ∧ Fr b w w' := by
  have ST := Lib.hid (fun r w (h : LR b P s r st uo kd fl w) => stepL b P s r st uo kd fl w h)
  obtain ⟨-, -, -, -, -, -, -, c35, -, -⟩ := h.reads
  rw [hr] at c35
  have S1 := Lib.hid (ST.out _ _ h)
  have HS := Lib.hid hs
  have HQ := Lib.hid hq
  have hqr : q = 34 ∨ q = 39 := hq
  clear h hr hs hq
  have q0 : 0 ≤ q := by omega
  have q1 : q ≤ 39 := by omega
  clear hqr
  go_enter Tryz.func95, Tryz.ntmps95
  go_wp2_with fail
  refine (S1.out).mono ?_
  rintro e w1 ⟨rfl, h1, f1⟩
  have H1 := Lib.hid h1
  have F1 := Lib.hid f1
  clear h1 f1 c35
  go_wp2_with fail
  go_loopw [] (fun wr => SRelI b P s st uo kd fl w q (true, R) wr) (fun wr => leftI b s wr)
  case atStart => exact ⟨tlB r, H1.out, F1.out, HS.out⟩
  case round =>
    obtain ⟨r', hL, hF, hx⟩ := hrel
    obtain ⟨-, -, -, -, -, -, -, d35, -, -⟩ := hL.reads
    have M := Lib.hid hL.left
    have HL := Lib.hid hL
    have HF := Lib.hid hF
    have S2 := Lib.hid (ST.out _ _ hL)
    clear hL hF
    by_cases g1 : hdB r' = 92
    · have hl1 := tl_lt g1 (by decide)
      rw [g1] at d35
      by_cases g2 : hdB (tlB r') = 13
      · by_cases g3 : hdB (tlB (tlB r')) = 10
        · have e1 := strB_go (q := q) (r := r') (y := tlB (tlB (tlB r'))) (by unfold strStep; rw [if_pos g1, if_pos g2, if_pos g3])
          have X := Lib.hid (show strB q (tlB (tlB (tlB r'))) = (true, R) by rw [← e1]; exact hx)
          have G2 := Lib.hid g2
          have G3 := Lib.hid g3
          have L3 := Lib.hid (show (tlB (tlB (tlB r'))).length < r'.length by have h1 := tlB_le (tlB r'); have h2 := tlB_le (tlB (tlB r')); omega)
          clear g1 g2 g3 e1 hx hl1
          go_wp2_with fail
          refine (S2.out).mono ?_
          rintro e w2 ⟨rfl, h2, f2⟩
          obtain ⟨-, -, -, -, -, -, -, e35, -, -⟩ := h2.reads
          rw [G2.out] at e35
          have S3 := Lib.hid (ST.out _ _ h2)
          have F2 := Lib.hid (HF.out.trans f2)
          clear h2 f2
          go_wp2_with fail
          refine (S3.out).mono ?_
          rintro e w3 ⟨rfl, h3, f3⟩
          obtain ⟨-, -, -, -, -, -, -, f35, -, -⟩ := h3.reads
          rw [G3.out] at f35
          have S4 := Lib.hid (ST.out _ _ h3)
          have F3 := Lib.hid (F2.out.trans f3)
          clear h3 f3
          go_wp2_with fail
          refine (S4.out).mono ?_
          rintro e w4 ⟨rfl, h4, f4⟩
          have H4 := Lib.hid h4
          have F4 := Lib.hid (F3.out.trans f4)
          clear h4 f4 d35 e35 f35
          go_wp2_with fail
          go_roundw
          case rel => exact ⟨_, H4.out, F4.out, X.out⟩
          case measure => rw [H4.out.left, M.out]; exact L3.out
        · have e1 := strB_go (q := q) (r := r') (y := tlB (tlB r')) (by unfold strStep; rw [if_pos g1, if_pos g2, if_neg g3])
          have X := Lib.hid (show strB q (tlB (tlB r')) = (true, R) by rw [← e1]; exact hx)
          have G2 := Lib.hid g2
          obtain ⟨cq, hcq⟩ : ∃ cq, hdB (tlB (tlB r')) = cq := ⟨_, rfl⟩
          rw [hcq] at g3
          have t1 : (cq == 10) = false := beq_eq_false_iff_ne.2 g3
          have G3 := Lib.hid hcq
          have L3 := Lib.hid (show (tlB (tlB r')).length < r'.length by have h1 := tlB_le (tlB r'); omega)
          clear g1 g2 g3 e1 hx hcq hl1
          go_wp2_with fail
          refine (S2.out).mono ?_
          rintro e w2 ⟨rfl, h2, f2⟩
          obtain ⟨-, -, -, -, -, -, -, e35, -, -⟩ := h2.reads
          rw [G2.out] at e35
          have S3 := Lib.hid (ST.out _ _ h2)
          have F2 := Lib.hid (HF.out.trans f2)
          clear h2 f2
          go_wp2_with fail
          refine (S3.out).mono ?_
          rintro e w3 ⟨rfl, h3, f3⟩
          obtain ⟨-, -, -, -, -, -, -, f35, -, -⟩ := h3.reads
          rw [G3.out] at f35
          have H3 := Lib.hid h3
          have F3 := Lib.hid (F2.out.trans f3)
          clear h3 f3
          go_wp2_with fail
          go_roundw
          case rel => exact ⟨_, H3.out, F3.out, X.out⟩
          case measure => rw [H3.out.left, M.out]; exact L3.out
      · have e1 := strB_go (q := q) (r := r') (y := tlB (tlB r')) (by unfold strStep; rw [if_pos g1, if_neg g2])
        have X := Lib.hid (show strB q (tlB (tlB r')) = (true, R) by rw [← e1]; exact hx)
        obtain ⟨cq, hcq⟩ : ∃ cq, hdB (tlB r') = cq := ⟨_, rfl⟩
        rw [hcq] at g2
        have t1 : (cq == 13) = false := beq_eq_false_iff_ne.2 g2
        have G2 := Lib.hid hcq
        have L3 := Lib.hid (show (tlB (tlB r')).length < r'.length by have h1 := tlB_le (tlB r'); omega)
        clear g1 g2 e1 hx hcq hl1
        go_wp2_with fail
        refine (S2.out).mono ?_
        rintro e w2 ⟨rfl, h2, f2⟩
        obtain ⟨-, -, -, -, -, -, -, e35, -, -⟩ := h2.reads
        rw [G2.out] at e35
        have S3 := Lib.hid (ST.out _ _ h2)
        have F2 := Lib.hid (HF.out.trans f2)
        clear h2 f2
        go_wp2_with fail
        refine (S3.out).mono ?_
        rintro e w3 ⟨rfl, h3, f3⟩
        have H3 := Lib.hid h3
        have F3 := Lib.hid (F2.out.trans f3)
        clear h3 f3 d35 e35
        go_wp2_with fail
        go_roundw
        case rel => exact ⟨_, H3.out, F3.out, X.out⟩
        case measure => rw [H3.out.left, M.out]; exact L3.out
    · by_cases g2 : hdB r' = -1 ∨ nlB (hdB r') = true
      · rw [strB_bad g2] at hx
        cases hx
      · by_cases g3 : hdB r' = q
        · have e1 := strB_quote HQ.out g3
          rw [e1] at hx
          obtain rfl : tlB r' = R := (Prod.mk.inj hx).2
          rw [g3] at d35
          have HQ2 := Lib.hid HQ.out
          clear g1 g2 g3 e1 hx q0 q1
          rcases HQ2.out with rfl | rfl
          all_goals
            go_wp2_with fail
            refine (S2.out).mono ?_
            rintro e w2 ⟨rfl, h2, f2⟩
            go_wp2_with fail
            go_ret
            exact ⟨rfl, h2, HF.out.trans f2⟩
        · have e1 := strB_go (q := q) (r := r') (y := tlB r') (by unfold strStep; rw [if_neg g1, if_neg g2, if_neg g3])
          have X := Lib.hid (show strB q (tlB r') = (true, R) by rw [← e1]; exact hx)
          have L3 := Lib.hid (show (tlB r').length < r'.length from tl_lt rfl (fun e => g2 (.inl e)))
          have n2 : ¬ (hdB r' = 10 ∨ hdB r' = 13 ∨ hdB r' = 12) := fun hh => g2 (.inr (decide_eq_true hh))
          have n3 : hdB r' ≠ -1 := fun hh => g2 (.inl hh)
          obtain ⟨cq, hcq⟩ : ∃ cq, hdB r' = cq := ⟨_, rfl⟩
          rw [hcq] at d35 g1 g3 n2 n3
          have t1 : (cq == 92) = false := beq_eq_false_iff_ne.2 g1
          have t2 : (cq == -1) = false := beq_eq_false_iff_ne.2 n3
          have t3 : (cq == 10) = false := beq_eq_false_iff_ne.2 (fun e => n2 (.inl e))
          have t4 : (cq == 13) = false := beq_eq_false_iff_ne.2 (fun e => n2 (.inr (.inl e)))
          have t5 : (cq == 12) = false := beq_eq_false_iff_ne.2 (fun e => n2 (.inr (.inr e)))
          have t6 : (cq == q) = false := beq_eq_false_iff_ne.2 g3
          clear g1 g2 g3 e1 hx n2 n3 hcq
          go_wp2_with fail
          refine (S2.out).mono ?_
          rintro e w2 ⟨rfl, h2, f2⟩
          have H2 := Lib.hid h2
          have F2 := Lib.hid (HF.out.trans f2)
          clear h2 f2 d35
          go_wp2_with fail
          go_roundw
          case rel => exact ⟨_, H2.out, F2.out, X.out⟩
          case measure => rw [H2.out.left, M.out]; exact L3.out
end Go.Proofs.YtmgkccnfhkcncaaGreatDoor
