/-
  css_lexer's lexer: consumeNumeric: its parts.
-/
import Derived.Test.YtmgkccnfhkcncaaGreatDoorNameI
namespace Go.Proofs.YtmgkccnfhkcncaaGreatDoor
open Go.RowKit

theorem LR.c38 {b : Nat} {P : Nat → Option Value} {s : ByteArray} {r : List UInt8} {st : Nat} {uo kd fl : Int} {w : World} (h : LR b P s r st uo kd fl w) : w.cell? ⟨b, 38, none⟩ = some (.int .u16 uo) := by
  obtain ⟨_, _, _, k, n, _, _, _, hL⟩ := h
  exact hL.c.2.2.2.2.2.1
theorem LR.set38 {b : Nat} {P : Nat → Option Value} {s : ByteArray} {r : List UInt8} {st : Nat} {uo kd fl : Int} {w : World} (h : LR b P s r st uo kd fl w) (v : Int) : LR b P s r st v kd fl (w.setCell ⟨b, 38, none⟩ (.int .u16 v)) := by
  obtain ⟨hTB, hP, hs, k, n, hA, hst, hn, hL⟩ := h
  exact ⟨hTB.fr (Fr.setCell w 38 _), hP, hs, k, n, hA, hst, hn, hL.set38 v⟩
/-- What consumeNumeric's caller sees. -/
theorem expLook_c {t : List UInt8} {c : UInt8} (hc : (if pmAt t 0 = true ∧ 1 < t.length then t[1]?.getD 0 else t[0]?.getD 0) = c) (h : 0 < t.length) : expLook t = digU c := by
  unfold expLook
  by_cases h1 : pmAt t 0 = true ∧ 1 < t.length
  · rw [if_pos h1] at hc ⊢
    unfold digAt
    rw [List.getElem?_eq_getElem h1.2] at hc ⊢
    exact congrArg digU hc
  · rw [if_neg h1] at hc ⊢
    unfold digAt
    rw [List.getElem?_eq_getElem h] at hc ⊢
    exact congrArg digU hc
def NumP (b : Nat) (P : Nat → Option Value) (s : ByteArray) (r : List UInt8) (st : Nat) (uo kd fl : Int) (w : World) (e : Ending) (w' : World) : Prop :=
  e = .returned (.int .u8 ((numericB r).1 : Nat)) ∧ LR b P s (numericB r).2.2 st (if (numericB r).1 = 26 then IntKind.u16.wrap ((numericB r).2.1 : Nat) else uo) kd fl w' ∧ Fr b w w'
theorem num_pct {b : Nat} {P : Nat → Option Value} {s : ByteArray} {r T : List UInt8} {st : Nat} {uo kd fl : Int} {w w' : World} (h1 : numB r = T) (h2 : wouldB T = false) (h3 : hdB T = 37) (h4 : LR b P s (tlB T) st uo kd fl w') (h5 : Fr b w w') : NumP b P s r st uo kd fl w (.returned (.int .u8 34)) w' := by
  have e : numericB r = (34, 0, tlB T) := by unfold numericB; rw [h1, if_neg (by rw [h2]; decide), if_pos h3]
  unfold NumP
  rw [e]
  exact ⟨rfl, h4, h5⟩
theorem num_num {b : Nat} {P : Nat → Option Value} {s : ByteArray} {r T : List UInt8} {st : Nat} {uo kd fl : Int} {w w' : World} (h1 : numB r = T) (h2 : wouldB T = false) (h3 : hdB T ≠ 37) (h4 : LR b P s T st uo kd fl w') (h5 : Fr b w w') : NumP b P s r st uo kd fl w (.returned (.int .u8 30)) w' := by
  have e : numericB r = (30, 0, T) := by unfold numericB; rw [h1, if_neg (by rw [h2]; decide), if_neg h3]
  unfold NumP
  rw [e]
  exact ⟨rfl, h4, h5⟩
theorem num_dim {b : Nat} {P : Nat → Option Value} {s : ByteArray} {r T : List UInt8} {st : Nat} {uo kd fl z : Int} {w w' : World} (h1 : numB r = T) (h2 : wouldB T = true) (h4 : LR b P s (nameR T) st z kd fl w') (h5 : Fr b w w') (h6 : z = IntKind.u16.wrap ((r.length - T.length : Nat) : Int)) : NumP b P s r st uo kd fl w (.returned (.int .u8 26)) w' := by
  have e : numericB r = (26, r.length - T.length, nameR T) := by unfold numericB; rw [h1, if_pos h2]
  unfold NumP
  rw [e]
  subst h6
  exact ⟨rfl, h4, h5⟩
/-- The lexer stands ahead of what F makes T of; nothing else turned. -/
def LRel (F : List UInt8 → List UInt8) (b : Nat) (P : Nat → Option Value) (s : ByteArray) (T : List UInt8) (st : Nat) (uo kd fl : Int) (w wr : World) : Prop := ∃ r', LR b P s r' st uo kd fl wr ∧ Fr b w wr ∧ F r' = T

set_option maxHeartbeats 8000000 in
set_option maxRecDepth 1000000 in
theorem numericI (b : Nat) (P : Nat → Option Value) (s : ByteArray) (r : List UInt8) (st : Nat) (uo kd fl : Int) (w : World) (h : LR b P s r st uo kd fl w) (hA : AtB s st r) :
    Calls Tryz.prog 101 #[.pointer (some ⟨b, 0, none⟩)] w fun e w' => NumP b P s r st uo kd fl w e w' := by
  have ST := Lib.hid (fun r w (h : LR b P s r st uo kd fl w) => stepL b P s r st uo kd fl w h)
  have WI := Lib.hid (fun r w (h : LR b P s r st uo kd fl w) => wouldI b P s r st uo kd fl w h)
  obtain ⟨T1, h1⟩ : ∃ T, signB r = T := ⟨_, rfl⟩
  obtain ⟨T2, h2⟩ : ∃ T, dgsB T1 = T := ⟨_, rfl⟩
  obtain ⟨T3, h3⟩ : ∃ T, pointB T2 = T := ⟨_, rfl⟩
  obtain ⟨T4, h4⟩ : ∃ T, expB T3 = T := ⟨_, rfl⟩
  have HN := Lib.hid (show numB r = T4 by unfold numB; rw [h1, h2, h3, h4])
  have E1 := Lib.hid h1
  have E2 := Lib.hid h2
  have E3 := Lib.hid h3
  have E4 := Lib.hid h4
  have OUT := Lib.hid h1.symm
  have H0 := Lib.hid h
  have F0 := Lib.hid (Fr.refl b w)
  have A0 := Lib.hid hA
  clear h1 h2 h3 h4 h hA
  go_enter Tryz.func101, Tryz.ntmps101
  obtain ⟨-, -, -, -, -, -, -, d35, -, -⟩ := H0.out.reads
  obtain ⟨cq, hcq⟩ : ∃ cq, hdB r = cq := ⟨_, rfl⟩
  rw [hcq] at d35
  have X := Lib.hid (show signB r = if cq = 43 ∨ cq = 45 then tlB r else r by rw [← hcq]; rfl)
  clear hcq
  obtain ⟨y, hy⟩ : ∃ y, decide (cq = 43 ∨ cq = 45) = y := ⟨_, rfl⟩
  have HY := Lib.hid hy
  clear hy
  go_upto_region 1 with fail
  go_cut [16] (fun v wx => v = .bool y ∧ LR b P s r st uo kd fl wx ∧ Fr b w wx)
  case first => as_aux_lemma =>
    by_cases g1 : cq = 43
    · have Y2 := Lib.hid (show y = true by rw [← HY.out]; exact decide_eq_true (.inl g1))
      subst g1
      go_wp2_with fail
      go_meet
      exact ⟨by rw [Y2.out], H0.out, F0.out⟩
    · by_cases g2 : cq = 45
      · have Y2 := Lib.hid (show y = true by rw [← HY.out]; exact decide_eq_true (.inr g2))
        subst g2
        clear g1
        go_wp2_with fail
        go_meet
        exact ⟨by rw [Y2.out], H0.out, F0.out⟩
      · have Y2 := Lib.hid (show y = false by rw [← HY.out]; exact decide_eq_false (fun hh => hh.elim g1 g2))
        have t1 : (cq == 43) = false := beq_eq_false_iff_ne.2 g1
        have t2 : (cq == 45) = false := beq_eq_false_iff_ne.2 g2
        clear g1 g2
        go_wp2_with fail
        go_meet
        exact ⟨by rw [Y2.out], H0.out, F0.out⟩
  case rest =>
    obtain ⟨rfl, hLa, hFa⟩ := hcut
    have Ha := Lib.hid hLa
    have Fa := Lib.hid hFa
    have SS := Lib.hid (ST.out _ _ hLa)
    clear hLa hFa d35
    go_upto_if 16 with fail
    go_cut [2] (fun v wx => v = .int .u8 0 ∧ LR b P s T1 st uo kd fl wx ∧ Fr b w wx)
    case first => as_aux_lemma =>
      cases y
      · have Z := Lib.hid (show T1 = r by rw [OUT.out, X.out, if_neg (of_decide_eq_false HY.out)])
        go_wp2_with fail
        go_meet
        exact ⟨rfl, by rw [Z.out]; exact Ha.out, Fa.out⟩
      · have Z := Lib.hid (show T1 = tlB r by rw [OUT.out, X.out, if_pos (of_decide_eq_true HY.out)])
        go_wp2_with fail
        refine (SS.out).mono ?_
        rintro e w2 ⟨rfl, h2, f2⟩
        go_wp2_with fail
        go_meet
        exact ⟨rfl, by rw [Z.out]; exact h2, Fa.out.trans f2⟩
    case rest =>
      obtain ⟨rfl, hL1, hF1⟩ := hcut
      have H1 := Lib.hid hL1
      have F1 := Lib.hid hF1
      clear hL1 hF1 SS OUT H0 F0 Ha Fa X HY
      go_upto_block 0 with fail
      go_cut [2] (fun v wx => v = .int .u8 0 ∧ LR b P s T2 st uo kd fl wx ∧ Fr b w wx)
      case first => as_aux_lemma =>
        go_wp2_with fail
        go_loopw [] (fun wr => LRel dgsB b P s T2 st uo kd fl w wr) (fun wr => leftI b s wr)
        case atStart => exact ⟨T1, H1.out, F1.out, E2.out⟩
        case round =>
          obtain ⟨r', hL, hF, hx⟩ := hrel
          obtain ⟨-, -, -, -, -, -, -, d35, -, -⟩ := hL.reads
          have M := Lib.hid hL.left
          have HL := Lib.hid hL
          have HF := Lib.hid hF
          have S2 := Lib.hid (ST.out _ _ hL)
          clear hL hF
          obtain ⟨cq, hcq⟩ : ∃ cq, hdB r' = cq := ⟨_, rfl⟩
          rw [hcq] at d35
          by_cases g1 : dgB cq = true
          · have g2 : 48 ≤ cq ∧ cq ≤ 57 := of_decide_eq_true g1
            obtain ⟨g3, g4⟩ := g2
            have X := Lib.hid (show dgsB (tlB r') = T2 by rw [← dgsB_go (by rw [hcq]; exact g1)]; exact hx)
            have L3 := Lib.hid (show (tlB r').length < r'.length from tl_lt hcq (by omega))
            clear g1 hcq hx
            go_wp2_with fail
            refine (S2.out).mono ?_
            rintro e w2 ⟨rfl, h2, f2⟩
            have H2 := Lib.hid h2
            have F2 := Lib.hid (HF.out.trans f2)
            clear h2 f2 d35
            go_wp2_with fail
            go_roundw
            case rel => exact ⟨_, H2.out, F2.out, X.out⟩
            case measure => rw [H2.out.left, M.out]; exact L3.out
          · have g2 : ¬ (48 ≤ cq ∧ cq ≤ 57) := of_decide_eq_false (Bool.eq_false_iff.2 g1)
            have e1 : r' = T2 := by rw [← dgsB_stop (r := r') (by rw [hcq]; exact Bool.eq_false_iff.2 g1)]; exact hx
            have X := Lib.hid e1
            clear g1 hcq hx e1
            by_cases g3 : 48 ≤ cq
            · have g4 : ¬ cq ≤ 57 := fun hh => g2 ⟨g3, hh⟩
              clear g2
              go_wp2_with fail
              go_meet
              exact ⟨rfl, by rw [← X.out]; exact HL.out, HF.out⟩
            · clear g2
              go_wp2_with fail
              go_meet
              exact ⟨rfl, by rw [← X.out]; exact HL.out, HF.out⟩
      case rest =>
        obtain ⟨rfl, hL2, hF2⟩ := hcut
        obtain ⟨-, -, -, -, -, -, -, d35, -, -⟩ := hL2.reads
        have H2 := Lib.hid hL2
        have F2 := Lib.hid hF2
        have SS := Lib.hid (ST.out _ _ hL2)
        clear hL2 hF2 H1 F1
        obtain ⟨cq, hcq⟩ : ∃ cq, hdB T2 = cq := ⟨_, rfl⟩
        rw [hcq] at d35
        have PX := Lib.hid (show (if cq = 46 then dgsB (tlB T2) else T2) = T3 by rw [← E3.out, ← hcq]; rfl)
        clear hcq
        go_upto_if 37 with fail
        go_cut [2] (fun v wx => v = .int .u8 0 ∧ LR b P s T3 st uo kd fl wx ∧ Fr b w wx)
        case first => as_aux_lemma =>
          by_cases g0 : cq = 46
          · have PY := Lib.hid (show dgsB (tlB T2) = T3 by rw [← PX.out, if_pos g0])
            subst g0
            go_wp2_with fail
            refine (SS.out).mono ?_
            rintro e w2 ⟨rfl, hh2, ff2⟩
            have HH2 := Lib.hid hh2
            have FF2 := Lib.hid (F2.out.trans ff2)
            clear hh2 ff2 d35
            go_wp2_with fail
            go_loopw [] (fun wr => LRel dgsB b P s T3 st uo kd fl w wr) (fun wr => leftI b s wr)
            case atStart => exact ⟨tlB T2, HH2.out, FF2.out, PY.out⟩
            case round =>
              obtain ⟨r', hL, hF, hx⟩ := hrel
              obtain ⟨-, -, -, -, -, -, -, d35, -, -⟩ := hL.reads
              have M := Lib.hid hL.left
              have HL := Lib.hid hL
              have HF := Lib.hid hF
              have S2 := Lib.hid (ST.out _ _ hL)
              clear hL hF
              obtain ⟨cq, hcq⟩ : ∃ cq, hdB r' = cq := ⟨_, rfl⟩
              rw [hcq] at d35
              by_cases g1 : dgB cq = true
              · have g2 : 48 ≤ cq ∧ cq ≤ 57 := of_decide_eq_true g1
                obtain ⟨g3, g4⟩ := g2
                have X := Lib.hid (show dgsB (tlB r') = T3 by rw [← dgsB_go (by rw [hcq]; exact g1)]; exact hx)
                have L3 := Lib.hid (show (tlB r').length < r'.length from tl_lt hcq (by omega))
                clear g1 hcq hx
                go_wp2_with fail
                refine (S2.out).mono ?_
                rintro e w2 ⟨rfl, h2, f2⟩
                have H2 := Lib.hid h2
                have F2 := Lib.hid (HF.out.trans f2)
                clear h2 f2 d35
                go_wp2_with fail
                go_roundw
                case rel => exact ⟨_, H2.out, F2.out, X.out⟩
                case measure => rw [H2.out.left, M.out]; exact L3.out
              · have g2 : ¬ (48 ≤ cq ∧ cq ≤ 57) := of_decide_eq_false (Bool.eq_false_iff.2 g1)
                have e1 : r' = T3 := by rw [← dgsB_stop (r := r') (by rw [hcq]; exact Bool.eq_false_iff.2 g1)]; exact hx
                have X := Lib.hid e1
                clear g1 hcq hx e1
                by_cases g3 : 48 ≤ cq
                · have g4 : ¬ cq ≤ 57 := fun hh => g2 ⟨g3, hh⟩
                  clear g2
                  go_wp2_with fail
                  go_meet
                  exact ⟨rfl, by rw [← X.out]; exact HL.out, HF.out⟩
                · clear g2
                  go_wp2_with fail
                  go_meet
                  exact ⟨rfl, by rw [← X.out]; exact HL.out, HF.out⟩
          · have PY := Lib.hid (show T2 = T3 by rw [← PX.out, if_neg g0])
            have t1 : (cq == 46) = false := beq_eq_false_iff_ne.2 g0
            clear g0
            go_wp2_with fail
            go_meet
            exact ⟨rfl, by rw [← PY.out]; exact H2.out, F2.out⟩
        case rest =>
          obtain ⟨rfl, hL3, hF3⟩ := hcut
          obtain ⟨k3, hA3, -, hk3, hss, d10, d33, e35, -, -⟩ := hL3.reads
          have H3 := Lib.hid hL3
          have F3 := Lib.hid hF3
          have SS := Lib.hid (ST.out _ _ hL3)
          have hA4 := hA3.tail
          clear hL3 hF3 H2 F2 PX d35 cq
          obtain ⟨K, hK⟩ : ∃ K, k3 + widB T3 = K := ⟨_, rfl⟩
          rw [hK] at hA4 hk3 d33
          have A4 := Lib.hid hA4
          have ML := Lib.hid hA4.size
          clear hK hA3 hA4
          obtain ⟨cq, hcq⟩ : ∃ cq, hdB T3 = cq := ⟨_, rfl⟩
          rw [hcq] at e35
          obtain ⟨t, ht⟩ : ∃ t, tlB T3 = t := ⟨_, rfl⟩
          rw [ht] at SS A4 ML
          have TT := Lib.hid ht
          have PX := Lib.hid (show (if (cq = 101 ∨ cq = 69) ∧ expLook t = true then dgsB (signB t) else T3) = T4 by rw [← E4.out, ← hcq, ← ht]; rfl)
          clear hcq ht
          obtain ⟨y, hy⟩ : ∃ y, decide (cq = 101 ∨ cq = 69) = y := ⟨_, rfl⟩
          have HY := Lib.hid hy
          clear hy
          go_upto_region 9 with fail
          go_cut [65] (fun v wx => v = .bool y ∧ LR b P s T3 st uo kd fl wx ∧ Fr b w wx)
          case first => as_aux_lemma =>
            by_cases g1 : cq = 101
            · have Y2 := Lib.hid (show y = true by rw [← HY.out]; exact decide_eq_true (.inl g1))
              subst g1
              go_wp2_with fail
              go_meet
              exact ⟨by rw [Y2.out], H3.out, F3.out⟩
            · by_cases g2 : cq = 69
              · have Y2 := Lib.hid (show y = true by rw [← HY.out]; exact decide_eq_true (.inr g2))
                subst g2
                clear g1
                go_wp2_with fail
                go_meet
                exact ⟨by rw [Y2.out], H3.out, F3.out⟩
              · have Y2 := Lib.hid (show y = false by rw [← HY.out]; exact decide_eq_false (fun hh => hh.elim g1 g2))
                have t1 : (cq == 101) = false := beq_eq_false_iff_ne.2 g1
                have t2 : (cq == 69) = false := beq_eq_false_iff_ne.2 g2
                clear g1 g2
                go_wp2_with fail
                go_meet
                exact ⟨by rw [Y2.out], H3.out, F3.out⟩
          case rest =>
            obtain ⟨rfl, hLa, hFa⟩ := hcut
            obtain ⟨k3', hA3', -, hk3', -, f10, f33, -, -, -⟩ := hLa.reads
            have Ha := Lib.hid hLa
            have Fa := Lib.hid hFa
            have SSa := Lib.hid (ST.out _ _ hLa)
            clear hLa hFa d10 d33 e35
            have hKK : k3' + widB T3 = K := by have h1 := A4.out; have h2 := hA3'.tail; rw [TT.out] at h2; exact h2.unique h1
            rw [hKK] at f33 hk3'
            rw [TT.out] at SSa
            clear hKK hA3' hk3'
            go_upto_if 65 with fail
            go_cut [2] (fun v wx => v = .int .u8 0 ∧ LR b P s T4 st uo kd fl wx ∧ Fr b w wx)
            case first => as_aux_lemma =>
              cases y
              · have Z := Lib.hid (show T3 = T4 by rw [← PX.out, if_neg (fun hh => of_decide_eq_false HY.out hh.1)])
                go_wp2_with fail
                go_meet
                exact ⟨rfl, by rw [← Z.out]; exact Ha.out, Fa.out⟩
              · have PZ := Lib.hid (show (if expLook t = true then dgsB (signB t) else T3) = T4 by
                  rw [← PX.out]
                  by_cases hh : expLook t = true
                  · rw [if_pos hh, if_pos ⟨of_decide_eq_true HY.out, hh⟩]
                  · rw [if_neg hh, if_neg (fun h2 => hh h2.2)])
                clear PX
                by_cases hb : K < s.size
                · have hbi : (K : Int) < (s.size : Int) := by omega
                  have hbi0 : (0 : Int) ≤ (K : Int) := by omega
                  obtain ⟨c, hc⟩ : ∃ c : UInt8, (if pmAt t 0 = true ∧ 1 < t.length then t[1]?.getD 0 else t[0]?.getD 0) = c := ⟨_, rfl⟩
                  have HC := Lib.hid hc
                  have HE := Lib.hid (show expLook t = digU c from expLook_c hc (by have := ML.out; omega))
                  clear hc
                  obtain ⟨x, hx⟩ : ∃ x, s[K] = x := ⟨_, rfl⟩
                  have hxl : x.toNat ≤ 255 := by have := UInt8.toNat_lt x; omega
                  have HX0 := Lib.hid (show t[0]? = some x by rw [← hx]; exact A4.out.get 0 hb)
                  have HPM := Lib.hid (show pmAt t 0 = decide (x.toNat = 43 ∨ x.toNat = 45) by unfold pmAt; rw [HX0.out])
                  obtain ⟨y2, hy2⟩ : ∃ y2, decide (pmAt t 0 = true ∧ 1 < t.length) = y2 := ⟨_, rfl⟩
                  have HY2 := Lib.hid hy2
                  clear hy2
                  go_upto_region 13 with fail
                  go_cut [99] (fun v wx => v = .bool y2 ∧ LR b P s T3 st uo kd fl wx ∧ Fr b w wx)
                  case first => as_aux_lemma =>
                    by_cases g1 : x.toNat = 43 ∨ x.toNat = 45
                    · by_cases hb2 : K + 1 < s.size
                      · have hbi2 : (K : Int) + 1 < (s.size : Int) := by omega
                        have Y3 := Lib.hid (show y2 = true by rw [← HY2.out]; exact decide_eq_true ⟨by rw [HPM.out]; exact decide_eq_true g1, by have := ML.out; omega⟩)
                        rcases g1 with g1 | g1
                        · have t1 : ((x.toNat : Int) == 43) = true := beq_iff_eq.2 (by omega)
                          clear g1
                          go_wp2_with fail
                          go_meet
                          exact ⟨by rw [Y3.out], Ha.out, Fa.out⟩
                        · have t1 : ((x.toNat : Int) == 45) = true := beq_iff_eq.2 (by omega)
                          have t2 : ((x.toNat : Int) == 43) = false := beq_eq_false_iff_ne.2 (by omega)
                          clear g1
                          go_wp2_with fail
                          go_meet
                          exact ⟨by rw [Y3.out], Ha.out, Fa.out⟩
                      · have hbi2 : ¬ (K : Int) + 1 < (s.size : Int) := by omega
                        have Y3 := Lib.hid (show y2 = false by rw [← HY2.out]; exact decide_eq_false (fun hh => by have := ML.out; omega))
                        rcases g1 with g1 | g1
                        · have t1 : ((x.toNat : Int) == 43) = true := beq_iff_eq.2 (by omega)
                          clear g1
                          go_wp2_with fail
                          go_meet
                          exact ⟨by rw [Y3.out], Ha.out, Fa.out⟩
                        · have t1 : ((x.toNat : Int) == 45) = true := beq_iff_eq.2 (by omega)
                          have t2 : ((x.toNat : Int) == 43) = false := beq_eq_false_iff_ne.2 (by omega)
                          clear g1
                          go_wp2_with fail
                          go_meet
                          exact ⟨by rw [Y3.out], Ha.out, Fa.out⟩
                    · have Y3 := Lib.hid (show y2 = false by rw [← HY2.out]; exact decide_eq_false (fun hh => g1 (by have h2 := hh.1; rw [HPM.out] at h2; exact of_decide_eq_true h2)))
                      have t1 : ((x.toNat : Int) == 45) = false := beq_eq_false_iff_ne.2 (by omega)
                      have t2 : ((x.toNat : Int) == 43) = false := beq_eq_false_iff_ne.2 (by omega)
                      clear g1
                      go_wp2_with fail
                      go_meet
                      exact ⟨by rw [Y3.out], Ha.out, Fa.out⟩
                  case rest =>
                    obtain ⟨rfl, hLb, hFb⟩ := hcut
                    obtain ⟨k3', hA3', -, hk3', -, m10, m33, -, -, -⟩ := hLb.reads
                    have Hb := Lib.hid hLb
                    have Fb := Lib.hid hFb
                    have hKK : k3' + widB T3 = K := by have h1 := A4.out; have h2 := hA3'.tail; rw [TT.out] at h2; exact h2.unique h1
                    rw [hKK] at m33
                    clear hLb hFb f10 f33 hKK hA3' hk3'
                    go_upto_if 99 with fail
                    go_cut [4] (fun v wx => v = .int .u8 (c.toNat : Int) ∧ LR b P s T3 st uo kd fl wx ∧ Fr b w wx)
                    case first => as_aux_lemma =>
                      cases y2
                      · have hcx : x = c := by
                          have h1 := HC.out
                          rw [if_neg (of_decide_eq_false HY2.out), HX0.out] at h1
                          exact h1
                        have CX := Lib.hid hcx
                        clear hcx
                        go_wp2_with fail
                        go_meet
                        exact ⟨by rw [← CX.out], Hb.out, Fb.out⟩
                      · have hh2 : pmAt t 0 = true ∧ 1 < t.length := of_decide_eq_true HY2.out
                        have hb2 : K + 1 < s.size := by have := ML.out; omega
                        have hbi2 : (K : Int) + 1 < (s.size : Int) := by omega
                        obtain ⟨x1, hx1⟩ : ∃ x, s[K + 1] = x := ⟨_, rfl⟩
                        have hcx : x1 = c := by
                          have h1 := HC.out
                          rw [if_pos hh2, A4.out.get 1 hb2, hx1] at h1
                          exact h1
                        have CX := Lib.hid hcx
                        clear hcx hh2
                        go_wp2_with fail
                        go_meet
                        exact ⟨by rw [← CX.out], Hb.out, Fb.out⟩
                    case rest =>
                      obtain ⟨rfl, hLc, hFc⟩ := hcut
                      have Hc := Lib.hid hLc
                      have Fc := Lib.hid hFc
                      have SSc := Lib.hid (ST.out _ _ hLc)
                      rw [TT.out] at SSc
                      have hcl : c.toNat ≤ 255 := by have := UInt8.toNat_lt c; omega
                      clear hLc hFc m10 m33 hx
                      by_cases g1 : 48 ≤ (c.toNat : Int)
                      · by_cases g2 : (c.toNat : Int) ≤ 57
                        · have PW := Lib.hid (show dgsB (signB t) = T4 by rw [← PZ.out, HE.out, if_pos (digU_yes g1 g2)])
                          obtain ⟨T5, h5⟩ : ∃ T, signB t = T := ⟨_, rfl⟩
                          have PV := Lib.hid (show dgsB T5 = T4 by rw [← h5]; exact PW.out)
                          have OUT := Lib.hid h5.symm
                          clear h5
                          go_wp2_with fail
                          refine (SSc.out).mono ?_
                          rintro e w5 ⟨rfl, hh5, ff5⟩
                          have H5 := Lib.hid hh5
                          have F5 := Lib.hid (Fc.out.trans ff5)
                          clear hh5 ff5 y HY g1 g2 HX0 HPM
                          obtain ⟨-, -, -, -, -, -, -, d35, -, -⟩ := H5.out.reads
                          obtain ⟨cq, hcq⟩ : ∃ cq, hdB t = cq := ⟨_, rfl⟩
                          rw [hcq] at d35
                          have X := Lib.hid (show signB t = if cq = 43 ∨ cq = 45 then tlB t else t by rw [← hcq]; rfl)
                          clear hcq
                          obtain ⟨y, hy⟩ : ∃ y, decide (cq = 43 ∨ cq = 45) = y := ⟨_, rfl⟩
                          have HY := Lib.hid hy
                          clear hy
                          go_upto_region 17 with fail
                          go_cut [126] (fun v wx => v = .bool y ∧ LR b P s t st uo kd fl wx ∧ Fr b w wx)
                          case first => as_aux_lemma =>
                            by_cases g1 : cq = 43
                            · have Y2 := Lib.hid (show y = true by rw [← HY.out]; exact decide_eq_true (.inl g1))
                              subst g1
                              go_wp2_with fail
                              go_meet
                              exact ⟨by rw [Y2.out], H5.out, F5.out⟩
                            · by_cases g2 : cq = 45
                              · have Y2 := Lib.hid (show y = true by rw [← HY.out]; exact decide_eq_true (.inr g2))
                                subst g2
                                clear g1
                                go_wp2_with fail
                                go_meet
                                exact ⟨by rw [Y2.out], H5.out, F5.out⟩
                              · have Y2 := Lib.hid (show y = false by rw [← HY.out]; exact decide_eq_false (fun hh => hh.elim g1 g2))
                                have t1 : (cq == 43) = false := beq_eq_false_iff_ne.2 g1
                                have t2 : (cq == 45) = false := beq_eq_false_iff_ne.2 g2
                                clear g1 g2
                                go_wp2_with fail
                                go_meet
                                exact ⟨by rw [Y2.out], H5.out, F5.out⟩
                          case rest =>
                            obtain ⟨rfl, hLa, hFa⟩ := hcut
                            have Ha := Lib.hid hLa
                            have Fa := Lib.hid hFa
                            have SS := Lib.hid (ST.out _ _ hLa)
                            clear hLa hFa d35
                            go_upto_if 126 with fail
                            go_cut [2] (fun v wx => v = .int .u8 0 ∧ LR b P s T5 st uo kd fl wx ∧ Fr b w wx)
                            case first => as_aux_lemma =>
                              cases y
                              · have Z := Lib.hid (show T5 = t by rw [OUT.out, X.out, if_neg (of_decide_eq_false HY.out)])
                                go_wp2_with fail
                                go_meet
                                exact ⟨rfl, by rw [Z.out]; exact Ha.out, Fa.out⟩
                              · have Z := Lib.hid (show T5 = tlB t by rw [OUT.out, X.out, if_pos (of_decide_eq_true HY.out)])
                                go_wp2_with fail
                                refine (SS.out).mono ?_
                                rintro e w2 ⟨rfl, h2, f2⟩
                                go_wp2_with fail
                                go_meet
                                exact ⟨rfl, by rw [Z.out]; exact h2, Fa.out.trans f2⟩
                            case rest =>
                              obtain ⟨rfl, hL6, hF6⟩ := hcut
                              have H6 := Lib.hid hL6
                              have F6 := Lib.hid hF6
                              clear hL6 hF6 SS OUT H5 F5 X HY Ha Fa
                              go_wp2_with fail
                              go_loopw [] (fun wr => LRel dgsB b P s T4 st uo kd fl w wr) (fun wr => leftI b s wr)
                              case atStart => exact ⟨T5, H6.out, F6.out, PV.out⟩
                              case round =>
                                obtain ⟨r', hL, hF, hx⟩ := hrel
                                obtain ⟨-, -, -, -, -, -, -, d35, -, -⟩ := hL.reads
                                have M := Lib.hid hL.left
                                have HL := Lib.hid hL
                                have HF := Lib.hid hF
                                have S2 := Lib.hid (ST.out _ _ hL)
                                clear hL hF
                                obtain ⟨cq, hcq⟩ : ∃ cq, hdB r' = cq := ⟨_, rfl⟩
                                rw [hcq] at d35
                                by_cases g1 : dgB cq = true
                                · have g2 : 48 ≤ cq ∧ cq ≤ 57 := of_decide_eq_true g1
                                  obtain ⟨g3, g4⟩ := g2
                                  have X := Lib.hid (show dgsB (tlB r') = T4 by rw [← dgsB_go (by rw [hcq]; exact g1)]; exact hx)
                                  have L3 := Lib.hid (show (tlB r').length < r'.length from tl_lt hcq (by omega))
                                  clear g1 hcq hx
                                  go_wp2_with fail
                                  refine (S2.out).mono ?_
                                  rintro e w2 ⟨rfl, h2, f2⟩
                                  have H2 := Lib.hid h2
                                  have F2 := Lib.hid (HF.out.trans f2)
                                  clear h2 f2 d35
                                  go_wp2_with fail
                                  go_roundw
                                  case rel => exact ⟨_, H2.out, F2.out, X.out⟩
                                  case measure => rw [H2.out.left, M.out]; exact L3.out
                                · have g2 : ¬ (48 ≤ cq ∧ cq ≤ 57) := of_decide_eq_false (Bool.eq_false_iff.2 g1)
                                  have e1 : r' = T4 := by rw [← dgsB_stop (r := r') (by rw [hcq]; exact Bool.eq_false_iff.2 g1)]; exact hx
                                  have X := Lib.hid e1
                                  clear g1 hcq hx e1
                                  by_cases g3 : 48 ≤ cq
                                  · have g4 : ¬ cq ≤ 57 := fun hh => g2 ⟨g3, hh⟩
                                    clear g2
                                    go_wp2_with fail
                                    go_meet
                                    exact ⟨rfl, by rw [← X.out]; exact HL.out, HF.out⟩
                                  · clear g2
                                    go_wp2_with fail
                                    go_meet
                                    exact ⟨rfl, by rw [← X.out]; exact HL.out, HF.out⟩
                        · have Z := Lib.hid (show T3 = T4 by rw [← PZ.out, HE.out, digU_no2 g2]; exact (if_neg (by decide)).symm)
                          go_wp2_with fail
                          go_meet
                          exact ⟨rfl, by rw [← Z.out]; exact Hc.out, Fc.out⟩
                      · have Z := Lib.hid (show T3 = T4 by rw [← PZ.out, HE.out, digU_no1 g1]; exact (if_neg (by decide)).symm)
                        go_wp2_with fail
                        go_meet
                        exact ⟨rfl, by rw [← Z.out]; exact Hc.out, Fc.out⟩
                · have hbi : ¬ (K : Int) < (s.size : Int) := by omega
                  have Z := Lib.hid (show T3 = T4 by
                    rw [← PZ.out, if_neg]
                    have hn : t = [] := List.eq_nil_of_length_eq_zero (by have := ML.out; omega)
                    rw [hn]; decide)
                  go_wp2_with fail
                  go_meet
                  exact ⟨rfl, by rw [← Z.out]; exact Ha.out, Fa.out⟩
            case rest =>
              obtain ⟨rfl, hL8, hF8⟩ := hcut
              obtain ⟨k8, hA8, hst8, hk8, -, -, -, -, -, h37⟩ := hL8.reads
              have h38 := hL8.fz 38
              have H8 := Lib.hid hL8
              have F8 := Lib.hid hF8
              have A8 := Lib.hid hA8
              have W8 := Lib.hid (WI.out _ _ hL8)
              obtain ⟨y8, hy8⟩ : ∃ y, wouldB T4 = y := ⟨_, rfl⟩
              rw [hy8] at W8
              have HY8 := Lib.hid hy8
              clear hL8 hF8 hA8 hy8
              go_wp2_with fail
              refine (W8.out).mono ?_
              rintro e w9 ⟨rfl, hb9⟩
              have H9 := Lib.hid (H8.out.fr hb9)
              have F9 := Lib.hid (F8.out.trans (Fr.of hb9))
              obtain ⟨k9, hA9, hst9, hk9, -, -, -, p35, -, p37⟩ := H9.out.reads
              have p38 := H9.out.fz 38
              have S9 := Lib.hid (ST.out _ _ H9.out)
              obtain ⟨cq9, hcq9⟩ : ∃ cq, hdB T4 = cq := ⟨_, rfl⟩
              rw [hcq9] at p35
              have HC9 := Lib.hid hcq9
              clear hb9 h37 h38 hcq9
              cases y8
              · by_cases g1 : cq9 = 37
                · subst g1
                  go_wp2_with fail
                  refine (S9.out).mono ?_
                  rintro e w10 ⟨rfl, hh, ff⟩
                  go_wp2_with fail
                  go_ret
                  exact num_pct HN.out HY8.out HC9.out hh (F9.out.trans ff)
                · have t1 : (cq9 == 37) = false := beq_eq_false_iff_ne.2 g1
                  have G1 := Lib.hid g1
                  clear g1
                  go_wp2_with fail
                  go_ret
                  exact num_num HN.out HY8.out (by rw [HC9.out]; exact G1.out) H9.out F9.out
              · have p38c := H9.out.c38
                have hz9 : ((k9 : Int) - st) = ((r.length - T4.length : Nat) : Int) := by have h1 := A0.out.size; have h2 := hA9.size; omega
                have Z9 := Lib.hid hz9
                have N9 := Lib.hid (nameI b P s k9 T4 st (IntKind.u16.wrap ((k9 : Int) - st)) kd fl _ (H9.out.set38 _) hA9)
                clear hz9 hA9
                go_wp2_with fail
                refine (N9.out).mono ?_
                rintro e w10 ⟨nm, rfl, hnm, hh, ff⟩
                have HH := Lib.hid hh
                have FF := Lib.hid ff
                clear hnm hh ff
                go_wp2_with fail
                go_ret
                exact num_dim HN.out HY8.out HH.out (F9.out.trans ((Fr.setCell w9 38 _).trans FF.out)) (by rw [Z9.out])
end Go.Proofs.YtmgkccnfhkcncaaGreatDoor
