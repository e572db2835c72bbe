/-
  css_lexer's lexer: consumeString, where the string ends. css_lexer's lexer: a string that does not end.
-/
import Derived.Test.YtmgkccnfhkcncaaGreatDoorLoop
import Derived.Test.YtmgkccnfhkcncaaGreatDoorLxx
namespace Go.Proofs.YtmgkccnfhkcncaaGreatDoor
open Go.RowKit

theorem strB_go {q : Int} {r y : List UInt8} (h : strStep q r = .inr y) : strB q r = strB q y := loopB_go (strStep_lt q) h
theorem strB_bad {q : Int} {r : List UInt8} (h1 : hdB r = -1 ∨ nlB (hdB r) = true) : strB q r = (false, r) := by
  refine loopB_end ?_
  unfold strStep
  have : ¬ hdB r = 92 := by
    rcases h1 with h1 | h1
    · omega
    · have := of_decide_eq_true h1; omega
  rw [if_neg this, if_pos h1]
theorem strB_quote {q : Int} {r : List UInt8} (hq : q = 34 ∨ q = 39) (h : hdB r = q) : strB q r = (true, tlB r) := by
  refine loopB_end ?_
  unfold strStep
  rw [if_neg (by omega), if_neg (by rw [h]; unfold nlB; simp; omega), if_pos h]
/-- The loop of consumeString. -/
def SRelI (b : Nat) (P : Nat → Option Value) (s : ByteArray) (st : Nat) (uo kd fl : Int) (w : World) (q : Int) (x : Bool × List UInt8) (wr : World) : Prop :=
  ∃ r', LR b P s r' st uo kd fl wr ∧ Fr b w wr ∧ strB q r' = x

set_option maxHeartbeats 4000000 in
set_option maxRecDepth 1000000 in
theorem strI (b : Nat) (P : Nat → Option Value) (s : ByteArray) (r : List UInt8) (st : Nat) (uo kd fl : Int) (q : Int) (R : List UInt8) (w : World) (h : LR b P s r st uo kd fl w) (hq : q = 34 ∨ q = 39) (hr : hdB r = q) (hs : strB q (tlB r) = (true, R)) :
    Calls Tryz.prog 95 #[.pointer (some ⟨b, 0, none⟩)] w fun e w' => e = .returned (.int .u8 36) ∧ LR b P s R st uo kd fl w' ∧ Fr b w w' := by
  have ST := Lib.hid (fun r w (h : LR b P s r st uo kd fl w) => stepL b P s r st uo kd fl w h)
  obtain ⟨-, -, -, -, -, -, -, c35, -, -⟩ := h.reads
  rw [hr] at c35
  have S1 := Lib.hid (ST.out _ _ h)
  have HS := Lib.hid hs
  have HQ := Lib.hid hq
  have hqr : q = 34 ∨ q = 39 := hq
  clear h hr hs hq
  have q0 : 0 ≤ q := by omega
  have q1 : q ≤ 39 := by omega
  clear hqr
  go_enter Tryz.func95, Tryz.ntmps95
  go_wp2_with fail
  refine (S1.out).mono ?_
  rintro e w1 ⟨rfl, h1, f1⟩
  have H1 := Lib.hid h1
  have F1 := Lib.hid f1
  clear h1 f1 c35
  go_wp2_with fail
  go_loopw [] (fun wr => SRelI b P s st uo kd fl w q (true, R) wr) (fun wr => leftI b s wr)
  case atStart => exact ⟨tlB r, H1.out, F1.out, HS.out⟩
  case round =>
    obtain ⟨r', hL, hF, hx⟩ := hrel
    obtain ⟨-, -, -, -, -, -, -, d35, -, -⟩ := hL.reads
    have M := Lib.hid hL.left
    have HL := Lib.hid hL
    have HF := Lib.hid hF
    have S2 := Lib.hid (ST.out _ _ hL)
    clear hL hF
    by_cases g1 : hdB r' = 92
    · have hl1 := tl_lt g1 (by decide)
      rw [g1] at d35
      by_cases g2 : hdB (tlB r') = 13
      · by_cases g3 : hdB (tlB (tlB r')) = 10
        · have e1 := strB_go (q := q) (r := r') (y := tlB (tlB (tlB r'))) (by unfold strStep; rw [if_pos g1, if_pos g2, if_pos g3])
          have X := Lib.hid (show strB q (tlB (tlB (tlB r'))) = (true, R) by rw [← e1]; exact hx)
          have G2 := Lib.hid g2
          have G3 := Lib.hid g3
          have L3 := Lib.hid (show (tlB (tlB (tlB r'))).length < r'.length by have h1 := tlB_le (tlB r'); have h2 := tlB_le (tlB (tlB r')); omega)
          clear g1 g2 g3 e1 hx hl1
          go_wp2_with fail
          refine (S2.out).mono ?_
          rintro e w2 ⟨rfl, h2, f2⟩
          obtain ⟨-, -, -, -, -, -, -, e35, -, -⟩ := h2.reads
          rw [G2.out] at e35
          have S3 := Lib.hid (ST.out _ _ h2)
          have F2 := Lib.hid (HF.out.trans f2)
          clear h2 f2
          go_wp2_with fail
          refine (S3.out).mono ?_
          rintro e w3 ⟨rfl, h3, f3⟩
          obtain ⟨-, -, -, -, -, -, -, f35, -, -⟩ := h3.reads
          rw [G3.out] at f35
          have S4 := Lib.hid (ST.out _ _ h3)
          have F3 := Lib.hid (F2.out.trans f3)
          clear h3 f3
          go_wp2_with fail
          refine (S4.out).mono ?_
          rintro e w4 ⟨rfl, h4, f4⟩
          have H4 := Lib.hid h4
          have F4 := Lib.hid (F3.out.trans f4)
          clear h4 f4 d35 e35 f35
          go_wp2_with fail
          go_roundw
          case rel => exact ⟨_, H4.out, F4.out, X.out⟩
          case measure => rw [H4.out.left, M.out]; exact L3.out
        · have e1 := strB_go (q := q) (r := r') (y := tlB (tlB r')) (by unfold strStep; rw [if_pos g1, if_pos g2, if_neg g3])
          have X := Lib.hid (show strB q (tlB (tlB r')) = (true, R) by rw [← e1]; exact hx)
          have G2 := Lib.hid g2
          obtain ⟨cq, hcq⟩ : ∃ cq, hdB (tlB (tlB r')) = cq := ⟨_, rfl⟩
          rw [hcq] at g3
          have t1 : (cq == 10) = false := beq_eq_false_iff_ne.2 g3
          have G3 := Lib.hid hcq
          have L3 := Lib.hid (show (tlB (tlB r')).length < r'.length by have h1 := tlB_le (tlB r'); omega)
          clear g1 g2 g3 e1 hx hcq hl1
          go_wp2_with fail
          refine (S2.out).mono ?_
          rintro e w2 ⟨rfl, h2, f2⟩
          obtain ⟨-, -, -, -, -, -, -, e35, -, -⟩ := h2.reads
          rw [G2.out] at e35
          have S3 := Lib.hid (ST.out _ _ h2)
          have F2 := Lib.hid (HF.out.trans f2)
          clear h2 f2
          go_wp2_with fail
          refine (S3.out).mono ?_
          rintro e w3 ⟨rfl, h3, f3⟩
          obtain ⟨-, -, -, -, -, -, -, f35, -, -⟩ := h3.reads
          rw [G3.out] at f35
          have H3 := Lib.hid h3
          have F3 := Lib.hid (F2.out.trans f3)
          clear h3 f3
          go_wp2_with fail
          go_roundw
          case rel => exact ⟨_, H3.out, F3.out, X.out⟩
          case measure => rw [H3.out.left, M.out]; exact L3.out
      · have e1 := strB_go (q := q) (r := r') (y := tlB (tlB r')) (by unfold strStep; rw [if_pos g1, if_neg g2])
        have X := Lib.hid (show strB q (tlB (tlB r')) = (true, R) by rw [← e1]; exact hx)
        obtain ⟨cq, hcq⟩ : ∃ cq, hdB (tlB r') = cq := ⟨_, rfl⟩
        rw [hcq] at g2
        have t1 : (cq == 13) = false := beq_eq_false_iff_ne.2 g2
        have G2 := Lib.hid hcq
        have L3 := Lib.hid (show (tlB (tlB r')).length < r'.length by have h1 := tlB_le (tlB r'); omega)
        clear g1 g2 e1 hx hcq hl1
        go_wp2_with fail
        refine (S2.out).mono ?_
        rintro e w2 ⟨rfl, h2, f2⟩
        obtain ⟨-, -, -, -, -, -, -, e35, -, -⟩ := h2.reads
        rw [G2.out] at e35
        have S3 := Lib.hid (ST.out _ _ h2)
        have F2 := Lib.hid (HF.out.trans f2)
        clear h2 f2
        go_wp2_with fail
        refine (S3.out).mono ?_
        rintro e w3 ⟨rfl, h3, f3⟩
        have H3 := Lib.hid h3
        have F3 := Lib.hid (F2.out.trans f3)
        clear h3 f3 d35 e35
        go_wp2_with fail
        go_roundw
        case rel => exact ⟨_, H3.out, F3.out, X.out⟩
        case measure => rw [H3.out.left, M.out]; exact L3.out
    · by_cases g2 : hdB r' = -1 ∨ nlB (hdB r') = true
      · rw [strB_bad g2] at hx
        cases hx
      · by_cases g3 : hdB r' = q
        · have e1 := strB_quote HQ.out g3
          rw [e1] at hx
          obtain rfl : tlB r' = R := (Prod.mk.inj hx).2
          rw [g3] at d35
          have HQ2 := Lib.hid HQ.out
          clear g1 g2 g3 e1 hx q0 q1
          rcases HQ2.out with rfl | rfl
          all_goals
            go_wp2_with fail
            refine (S2.out).mono ?_
            rintro e w2 ⟨rfl, h2, f2⟩
            go_wp2_with fail
            go_ret
            exact ⟨rfl, h2, HF.out.trans f2⟩
        · have e1 := strB_go (q := q) (r := r') (y := tlB r') (by unfold strStep; rw [if_neg g1, if_neg g2, if_neg g3])
          have X := Lib.hid (show strB q (tlB r') = (true, R) by rw [← e1]; exact hx)
          have L3 := Lib.hid (show (tlB r').length < r'.length from tl_lt rfl (fun e => g2 (.inl e)))
          have n2 : ¬ (hdB r' = 10 ∨ hdB r' = 13 ∨ hdB r' = 12) := fun hh => g2 (.inr (decide_eq_true hh))
          have n3 : hdB r' ≠ -1 := fun hh => g2 (.inl hh)
          obtain ⟨cq, hcq⟩ : ∃ cq, hdB r' = cq := ⟨_, rfl⟩
          rw [hcq] at d35 g1 g3 n2 n3
          have t1 : (cq == 92) = false := beq_eq_false_iff_ne.2 g1
          have t2 : (cq == -1) = false := beq_eq_false_iff_ne.2 n3
          have t3 : (cq == 10) = false := beq_eq_false_iff_ne.2 (fun e => n2 (.inl e))
          have t4 : (cq == 13) = false := beq_eq_false_iff_ne.2 (fun e => n2 (.inr (.inl e)))
          have t5 : (cq == 12) = false := beq_eq_false_iff_ne.2 (fun e => n2 (.inr (.inr e)))
          have t6 : (cq == q) = false := beq_eq_false_iff_ne.2 g3
          clear g1 g2 g3 e1 hx n2 n3 hcq
          go_wp2_with fail
          refine (S2.out).mono ?_
          rintro e w2 ⟨rfl, h2, f2⟩
          have H2 := Lib.hid h2
          have F2 := Lib.hid (HF.out.trans f2)
          clear h2 f2 d35
          go_wp2_with fail
          go_roundw
          case rel => exact ⟨_, H2.out, F2.out, X.out⟩
          case measure => rw [H2.out.left, M.out]; exact L3.out
end Go.Proofs.YtmgkccnfhkcncaaGreatDoor

namespace Go.Proofs.YtmgkccnfhkcncaaGreatDoor
open Go.RowKit
attribute [local go_sem ↓] Go.wp_at_zero Go.wp_at_succ

theorem strB_le (q : Int) (r : List UInt8) : (strB q r).2.length ≤ r.length := by
  refine loopB_ind (strStep_lt q) (fun x y => y.2.length ≤ x.length) ?_ ?_ _ r (Nat.le_refl _)
  · intro x a h
    unfold strStep at h
    split at h
    · split at h <;> cases h
    · split at h
      · obtain rfl := Sum.inl.inj h; exact Nat.le_refl _
      · split at h
        · obtain rfl := Sum.inl.inj h; exact tlB_le x
        · cases h
  · intro x y a h hq
    have := strStep_lt q x y h
    omega

set_option maxHeartbeats 4000000 in
set_option maxRecDepth 1000000 in
theorem strF (b : Nat) (G : LogI) (P : Nat → Option Value) (s : ByteArray) (r : List UInt8) (st k : Nat) (uo kd fl : Int) (cs : List (Nat × Nat)) (S : Nat → Prop) (q : Int) (R : List UInt8) (w : World) (h : LR b P s r st uo kd fl w) (hX : LxS b G s k cs S P w) (hA : AtB s k r) (hq : q = 34 ∨ q = 39) (hr : hdB r = q) (hs : strB q (tlB r) = (false, R)) :
    Calls Tryz.prog 95 #[.pointer (some ⟨b, 0, none⟩)] w fun e w' => e = .returned (.int .u8 2) ∧ LxP b G s R st uo kd fl cs S w w' := by
  have HX := Lib.hid hX
  have HAA := Lib.hid hA
  have HLT := Lib.hid (show R.length < r.length by have h1 := strB_le q (tlB r); rw [hs] at h1; have h2 := tl_lt (r := r) rfl (by rw [hr]; omega); exact Nat.lt_of_le_of_lt h1 h2)
  clear hX hA
  have ST := Lib.hid (fun r w (h : LR b P s r st uo kd fl w) => stepL b P s r st uo kd fl w h)
  obtain ⟨-, -, -, -, -, -, -, c35, -, -⟩ := h.reads
  rw [hr] at c35
  have S1 := Lib.hid (ST.out _ _ h)
  have HS := Lib.hid hs
  have HQ := Lib.hid hq
  have hqr : q = 34 ∨ q = 39 := hq
  clear h hr hs hq
  have q0 : 0 ≤ q := by omega
  have q1 : q ≤ 39 := by omega
  clear hqr
  go_enter Tryz.func95, Tryz.ntmps95
  go_wp2_with fail
  refine (S1.out).mono ?_
  rintro e w1 ⟨rfl, h1, f1⟩
  have H1 := Lib.hid h1
  have F1 := Lib.hid f1
  clear h1 f1 c35
  go_wp2_with fail
  go_loopw [] (fun wr => SRelI b P s st uo kd fl w q (false, R) wr) (fun wr => leftI b s wr)
  case atStart => exact ⟨tlB r, H1.out, F1.out, HS.out⟩
  case round =>
    obtain ⟨r', hL, hF, hx⟩ := hrel
    obtain ⟨-, -, -, -, -, -, -, d35, -, -⟩ := hL.reads
    have M := Lib.hid hL.left
    have HL := Lib.hid hL
    have HF := Lib.hid hF
    have S2 := Lib.hid (ST.out _ _ hL)
    clear hL hF
    by_cases g1 : hdB r' = 92
    · have hl1 := tl_lt g1 (by decide)
      rw [g1] at d35
      by_cases g2 : hdB (tlB r') = 13
      · by_cases g3 : hdB (tlB (tlB r')) = 10
        · have e1 := strB_go (q := q) (r := r') (y := tlB (tlB (tlB r'))) (by unfold strStep; rw [if_pos g1, if_pos g2, if_pos g3])
          have X := Lib.hid (show strB q (tlB (tlB (tlB r'))) = (false, R) by rw [← e1]; exact hx)
          have G2 := Lib.hid g2
          have G3 := Lib.hid g3
          have L3 := Lib.hid (show (tlB (tlB (tlB r'))).length < r'.length by have h1 := tlB_le (tlB r'); have h2 := tlB_le (tlB (tlB r')); omega)
          clear g1 g2 g3 e1 hx hl1
          go_wp2_with fail
          refine (S2.out).mono ?_
          rintro e w2 ⟨rfl, h2, f2⟩
          obtain ⟨-, -, -, -, -, -, -, e35, -, -⟩ := h2.reads
          rw [G2.out] at e35
          have S3 := Lib.hid (ST.out _ _ h2)
          have F2 := Lib.hid (HF.out.trans f2)
          clear h2 f2
          go_wp2_with fail
          refine (S3.out).mono ?_
          rintro e w3 ⟨rfl, h3, f3⟩
          obtain ⟨-, -, -, -, -, -, -, f35, -, -⟩ := h3.reads
          rw [G3.out] at f35
          have S4 := Lib.hid (ST.out _ _ h3)
          have F3 := Lib.hid (F2.out.trans f3)
          clear h3 f3
          go_wp2_with fail
          refine (S4.out).mono ?_
          rintro e w4 ⟨rfl, h4, f4⟩
          have H4 := Lib.hid h4
          have F4 := Lib.hid (F3.out.trans f4)
          clear h4 f4 d35 e35 f35
          go_wp2_with fail
          go_roundw
          case rel => exact ⟨_, H4.out, F4.out, X.out⟩
          case measure => rw [H4.out.left, M.out]; exact L3.out
        · have e1 := strB_go (q := q) (r := r') (y := tlB (tlB r')) (by unfold strStep; rw [if_pos g1, if_pos g2, if_neg g3])
          have X := Lib.hid (show strB q (tlB (tlB r')) = (false, R) by rw [← e1]; exact hx)
          have G2 := Lib.hid g2
          obtain ⟨cq, hcq⟩ : ∃ cq, hdB (tlB (tlB r')) = cq := ⟨_, rfl⟩
          rw [hcq] at g3
          have t1 : (cq == 10) = false := beq_eq_false_iff_ne.2 g3
          have G3 := Lib.hid hcq
          have L3 := Lib.hid (show (tlB (tlB r')).length < r'.length by have h1 := tlB_le (tlB r'); omega)
          clear g1 g2 g3 e1 hx hcq hl1
          go_wp2_with fail
          refine (S2.out).mono ?_
          rintro e w2 ⟨rfl, h2, f2⟩
          obtain ⟨-, -, -, -, -, -, -, e35, -, -⟩ := h2.reads
          rw [G2.out] at e35
          have S3 := Lib.hid (ST.out _ _ h2)
          have F2 := Lib.hid (HF.out.trans f2)
          clear h2 f2
          go_wp2_with fail
          refine (S3.out).mono ?_
          rintro e w3 ⟨rfl, h3, f3⟩
          obtain ⟨-, -, -, -, -, -, -, f35, -, -⟩ := h3.reads
          rw [G3.out] at f35
          have H3 := Lib.hid h3
          have F3 := Lib.hid (F2.out.trans f3)
          clear h3 f3
          go_wp2_with fail
          go_roundw
          case rel => exact ⟨_, H3.out, F3.out, X.out⟩
          case measure => rw [H3.out.left, M.out]; exact L3.out
      · have e1 := strB_go (q := q) (r := r') (y := tlB (tlB r')) (by unfold strStep; rw [if_pos g1, if_neg g2])
        have X := Lib.hid (show strB q (tlB (tlB r')) = (false, R) by rw [← e1]; exact hx)
        obtain ⟨cq, hcq⟩ : ∃ cq, hdB (tlB r') = cq := ⟨_, rfl⟩
        rw [hcq] at g2
        have t1 : (cq == 13) = false := beq_eq_false_iff_ne.2 g2
        have G2 := Lib.hid hcq
        have L3 := Lib.hid (show (tlB (tlB r')).length < r'.length by have h1 := tlB_le (tlB r'); omega)
        clear g1 g2 e1 hx hcq hl1
        go_wp2_with fail
        refine (S2.out).mono ?_
        rintro e w2 ⟨rfl, h2, f2⟩
        obtain ⟨-, -, -, -, -, -, -, e35, -, -⟩ := h2.reads
        rw [G2.out] at e35
        have S3 := Lib.hid (ST.out _ _ h2)
        have F2 := Lib.hid (HF.out.trans f2)
        clear h2 f2
        go_wp2_with fail
        refine (S3.out).mono ?_
        rintro e w3 ⟨rfl, h3, f3⟩
        have H3 := Lib.hid h3
        have F3 := Lib.hid (F2.out.trans f3)
        clear h3 f3 d35 e35
        go_wp2_with fail
        go_roundw
        case rel => exact ⟨_, H3.out, F3.out, X.out⟩
        case measure => rw [H3.out.left, M.out]; exact L3.out
    · by_cases g2 : hdB r' = -1 ∨ nlB (hdB r') = true
      · rw [strB_bad g2] at hx
        obtain rfl : r' = R := (Prod.mk.inj hx).2
        clear hx
        obtain ⟨kp, hkA, hks, hkw, hsz, -, -, -, c36, c37⟩ := HL.out.reads
        have hkz := hkA.size
        have hkz2 := HAA.out.size
        have hkl := HLT.out
        have E := Lib.hid (fun w => rangeEndI st kp w hks (by omega))
        obtain ⟨d1, d2, d3, d4, d5, d6⟩ := HX.out.c16 HL.out
        have X2 := Lib.hid (HX.out.fr (k' := k) HF.out (Nat.le_refl _))
        have hl := HL.out.lt
        have B := Lib.hid (bd_head hkA (by
          rcases g2 with g2 | g2
          · omega
          · have := of_decide_eq_true g2
            omega))
        have TI := Lib.hid (fun (tx : ByteArray) w2 (hL2 : LR b P s r' st uo kd fl w2) (hX2 : LxS b G s k cs S P w2) => tellID b G s r' st k kp kp uo kd fl 0 34 1 tx cs S P w2 hL2 hX2 (by omega) (by omega) (Nat.le_refl _) hkA.le B.out (by decide) (by decide))
        unfold LogI.val logV at TI
        have g2h := Lib.hid g2
        clear g1 g2
        have HKA := Lib.hid hkA
        have KPZ := Lib.hid (show s.size - r'.length = kp by omega)
        clear hkA hkz hkz2
        rcases g2h.out with g2 | g2
        · rw [g2] at d35
          clear g2
          go_upto_region 14 with fail
          go_region_held3 (fun w' => w'.cell? ⟨b, 1, none⟩ = some (.func (.func 71) #[] #[.pointer (some ⟨G.gk, 0, none⟩), .pointer (some ⟨G.gm, 0, none⟩), .pointer (some ⟨G.gh, 0, none⟩), .pointer (some ⟨G.gs, 0, none⟩)]) ∧ w'.cell? ⟨b, 2, none⟩ = some (.func G.g2 #[] G.c2) ∧ w'.cell? ⟨b, 3, none⟩ = some (.func G.g3 #[] G.c3) ∧ w'.cell? ⟨b, 4, none⟩ = some (.func G.g4 #[] G.c4) ∧ w'.cell? ⟨b, 5, none⟩ = some (.int .i8 3) ∧ w'.cell? ⟨b, 6, none⟩ = some (.map none) ∧ w'.cell? ⟨b, 36, none⟩ = some (.int .i32 (st : Int)) ∧ w'.cell? ⟨b, 37, none⟩ = some (.int .i32 ((kp : Int) - st))) (go_keep)
            (first
              | (go_at_call 35; refine (E.out _).mono ?_; rintro e w2 ⟨rfl, hb2⟩; have HB2 := Lib.hid (below_undrew hb2); have j1 := (hb2.cell (p := ⟨b, 1, none⟩) hl).trans d1; have j2 := (hb2.cell (p := ⟨b, 2, none⟩) hl).trans d2; have j3 := (hb2.cell (p := ⟨b, 3, none⟩) hl).trans d3; have j4 := (hb2.cell (p := ⟨b, 4, none⟩) hl).trans d4; have j5 := (hb2.cell (p := ⟨b, 5, none⟩) hl).trans d5; have j6 := (hb2.cell (p := ⟨b, 6, none⟩) hl).trans d6; have j7 := (hb2.cell (p := ⟨b, 36, none⟩) hl).trans c36; have j8 := (hb2.cell (p := ⟨b, 37, none⟩) hl).trans c37; clear hb2)
              | (go_at_call 94; refine (TI.out _ _ (HL.out.fr HB2.out) (X2.out.fr (Fr.of HB2.out) (Nat.le_refl _))).mono ?_; rintro e w3 ⟨rfl, P3, S3, q1, q2, q3, q4, q5⟩; obtain ⟨i1, i2, i3, i4, i5, i6⟩ := q2.c16 q1; obtain ⟨i7, i8⟩ := q1.c3637 HKA.out; have Q1 := Lib.hid q1; have Q2 := Lib.hid q2; have Q4 := Lib.hid q4; have Q5 := Lib.hid q5; clear q1 q2 q3 q4 q5))
          go_wp2_with fail
          go_ret
          exact ⟨rfl, P3, S3, Q1.out, by rw [KPZ.out]; exact Q2.out, (HF.out.fx HX.out.own).trans ((Below.fx HB2.out).trans Q4.out (fun _ hi => .inl hi)) (fun _ hi => .inl hi), fun i hi => (Q5.out i hi).elim .inl fun h => .inr (Nat.le_trans HF.out.size (Nat.le_trans HB2.out.size h))⟩
        · have g2' : hdB r' = 10 ∨ hdB r' = 13 ∨ hdB r' = 12 := of_decide_eq_true g2
          clear g2
          rcases g2' with g2' | g2' | g2'
          all_goals
            rw [g2'] at d35
            clear g2'
            go_upto_region 14 with fail
            go_region_held3 (fun w' => w'.cell? ⟨b, 1, none⟩ = some (.func (.func 71) #[] #[.pointer (some ⟨G.gk, 0, none⟩), .pointer (some ⟨G.gm, 0, none⟩), .pointer (some ⟨G.gh, 0, none⟩), .pointer (some ⟨G.gs, 0, none⟩)]) ∧ w'.cell? ⟨b, 2, none⟩ = some (.func G.g2 #[] G.c2) ∧ w'.cell? ⟨b, 3, none⟩ = some (.func G.g3 #[] G.c3) ∧ w'.cell? ⟨b, 4, none⟩ = some (.func G.g4 #[] G.c4) ∧ w'.cell? ⟨b, 5, none⟩ = some (.int .i8 3) ∧ w'.cell? ⟨b, 6, none⟩ = some (.map none) ∧ w'.cell? ⟨b, 36, none⟩ = some (.int .i32 (st : Int)) ∧ w'.cell? ⟨b, 37, none⟩ = some (.int .i32 ((kp : Int) - st))) (go_keep)
              (first
                | (go_at_call 35; refine (E.out _).mono ?_; rintro e w2 ⟨rfl, hb2⟩; have HB2 := Lib.hid (below_undrew hb2); have j1 := (hb2.cell (p := ⟨b, 1, none⟩) hl).trans d1; have j2 := (hb2.cell (p := ⟨b, 2, none⟩) hl).trans d2; have j3 := (hb2.cell (p := ⟨b, 3, none⟩) hl).trans d3; have j4 := (hb2.cell (p := ⟨b, 4, none⟩) hl).trans d4; have j5 := (hb2.cell (p := ⟨b, 5, none⟩) hl).trans d5; have j6 := (hb2.cell (p := ⟨b, 6, none⟩) hl).trans d6; have j7 := (hb2.cell (p := ⟨b, 36, none⟩) hl).trans c36; have j8 := (hb2.cell (p := ⟨b, 37, none⟩) hl).trans c37; clear hb2)
                | (go_at_call 94; refine (TI.out _ _ (HL.out.fr HB2.out) (X2.out.fr (Fr.of HB2.out) (Nat.le_refl _))).mono ?_; rintro e w3 ⟨rfl, P3, S3, q1, q2, q3, q4, q5⟩; obtain ⟨i1, i2, i3, i4, i5, i6⟩ := q2.c16 q1; obtain ⟨i7, i8⟩ := q1.c3637 HKA.out; have Q1 := Lib.hid q1; have Q2 := Lib.hid q2; have Q4 := Lib.hid q4; have Q5 := Lib.hid q5; clear q1 q2 q3 q4 q5))
            go_wp2_with fail
            go_ret
            exact ⟨rfl, P3, S3, Q1.out, by rw [KPZ.out]; exact Q2.out, (HF.out.fx HX.out.own).trans ((Below.fx HB2.out).trans Q4.out (fun _ hi => .inl hi)) (fun _ hi => .inl hi), fun i hi => (Q5.out i hi).elim .inl fun h => .inr (Nat.le_trans HF.out.size (Nat.le_trans HB2.out.size h))⟩
      · by_cases g3 : hdB r' = q
        · have e1 := strB_quote HQ.out g3
          rw [e1] at hx
          cases hx
        · have e1 := strB_go (q := q) (r := r') (y := tlB r') (by unfold strStep; rw [if_neg g1, if_neg g2, if_neg g3])
          have X := Lib.hid (show strB q (tlB r') = (false, R) by rw [← e1]; exact hx)
          have L3 := Lib.hid (show (tlB r').length < r'.length from tl_lt rfl (fun e => g2 (.inl e)))
          have n2 : ¬ (hdB r' = 10 ∨ hdB r' = 13 ∨ hdB r' = 12) := fun hh => g2 (.inr (decide_eq_true hh))
          have n3 : hdB r' ≠ -1 := fun hh => g2 (.inl hh)
          obtain ⟨cq, hcq⟩ : ∃ cq, hdB r' = cq := ⟨_, rfl⟩
          rw [hcq] at d35 g1 g3 n2 n3
          have t1 : (cq == 92) = false := beq_eq_false_iff_ne.2 g1
          have t2 : (cq == -1) = false := beq_eq_false_iff_ne.2 n3
          have t3 : (cq == 10) = false := beq_eq_false_iff_ne.2 (fun e => n2 (.inl e))
          have t4 : (cq == 13) = false := beq_eq_false_iff_ne.2 (fun e => n2 (.inr (.inl e)))
          have t5 : (cq == 12) = false := beq_eq_false_iff_ne.2 (fun e => n2 (.inr (.inr e)))
          have t6 : (cq == q) = false := beq_eq_false_iff_ne.2 g3
          clear g1 g2 g3 e1 hx n2 n3 hcq
          go_wp2_with fail
          refine (S2.out).mono ?_
          rintro e w2 ⟨rfl, h2, f2⟩
          have H2 := Lib.hid h2
          have F2 := Lib.hid (HF.out.trans f2)
          clear h2 f2 d35
          go_wp2_with fail
          go_roundw
          case rel => exact ⟨_, H2.out, F2.out, X.out⟩
          case measure => rw [H2.out.left, M.out]; exact L3.out
end Go.Proofs.YtmgkccnfhkcncaaGreatDoor
