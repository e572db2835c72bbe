/-
  The reference's lexer: a number and what belongs to it.
-/
import Derived.Test.YtmgkccnfhkcncaaGreatDoorSpB
import Derived.Deep.DeepCutAuto
import Derived.Deep.CutBlock
namespace Go.Proofs.YtmgkccnfhkcncaaGreatDoor
open Go.RowKit

theorem signS_yes {l : List Nat} (h : cpAt l 0 = 43 ∨ cpAt l 0 = 45) : signS l = l.tail := by
  cases l with
  | nil => rfl
  | cons c t => rw [cpAt_zero_cons] at h; unfold signS; dsimp only; rw [if_pos (by omega)]; rfl
theorem signS_no {l : List Nat} (h : ¬ (cpAt l 0 = 43 ∨ cpAt l 0 = 45)) : signS l = l := by
  cases l with
  | nil => rfl
  | cons c t => rw [cpAt_zero_cons] at h; unfold signS; dsimp only; rw [if_neg (by omega)]
theorem pointS_yes {l : List Nat} (h : cpAt l 0 = 46) (h2 : dgB (cpAt l 1) = true) : pointS l = (dgS l.tail, false) := by
  cases l with
  | nil => rw [cpAt_nil] at h; omega
  | cons c t => rw [cpAt_zero_cons] at h; rw [cpAt_succ_cons] at h2; unfold pointS; dsimp only; rw [if_pos (by omega), if_pos h2]; rfl
theorem pointS_open {l : List Nat} (h : cpAt l 0 = 46) (h2 : dgB (cpAt l 1) = false) : pointS l = (l, true) := by
  cases l with
  | nil => rw [cpAt_nil] at h; omega
  | cons c t => rw [cpAt_zero_cons] at h; rw [cpAt_succ_cons] at h2; unfold pointS; dsimp only; rw [if_pos (by omega), if_neg (by rw [h2]; decide)]
theorem pointS_no {l : List Nat} (h : cpAt l 0 ≠ 46) : pointS l = (l, false) := by
  cases l with
  | nil => rfl
  | cons c t => rw [cpAt_zero_cons] at h; unfold pointS; dsimp only; rw [if_neg (by omega)]
/-- Is it an exponent. -/
def expBL (b c : Int) : Bool := dgB b || ((decide (b = 43) || decide (b = 45)) && dgB c)
theorem expB_iff (b c : Int) : expBL b c = true ↔ (dgB b = true ∨ ((b = 43 ∨ b = 45) ∧ dgB c = true)) := by
  unfold expBL; simp only [Bool.or_eq_true, Bool.and_eq_true, decide_eq_true_eq]
theorem expS_yes {l : List Nat} (h : cpAt l 0 = 101 ∨ cpAt l 0 = 69) (h2 : expBL (cpAt l 1) (cpAt l 2) = true) : expS l = dgS l.tail.tail := by
  cases l with
  | nil => rfl
  | cons c t =>
    rw [cpAt_zero_cons] at h; rw [cpAt_succ_cons, cpAt_succ_cons, expB_iff] at h2
    unfold expS; dsimp only; rw [if_pos (by omega), if_pos h2]; rfl
theorem expS_no {l : List Nat} (h : cpAt l 0 = 101 ∨ cpAt l 0 = 69) (h2 : expBL (cpAt l 1) (cpAt l 2) = false) : expS l = l := by
  cases l with
  | nil => rfl
  | cons c t =>
    rw [cpAt_zero_cons] at h; rw [cpAt_succ_cons, cpAt_succ_cons] at h2
    unfold expS; dsimp only; rw [if_pos (by omega), if_neg (by rw [← expB_iff, h2]; decide)]
theorem expS_not {l : List Nat} (h : ¬ (cpAt l 0 = 101 ∨ cpAt l 0 = 69)) : expS l = l := by
  cases l with
  | nil => rfl
  | cons c t => rw [cpAt_zero_cons] at h; unfold expS; dsimp only; rw [if_neg (by omega)]

theorem spS_suf : ∀ l : List Nat, spS l <:+ l
  | [] => List.suffix_refl _
  | c :: t => by
    rw [spS_cons]
    by_cases h : isWs c = true
    · rw [if_pos h]; exact (spS_suf t).trans (List.suffix_cons _ _)
    · rw [if_neg h]; exact List.suffix_refl _
theorem dgS_suf : ∀ l : List Nat, dgS l <:+ l
  | [] => List.suffix_refl _
  | c :: t => by
    rw [dgS_cons]
    by_cases h : isDg c = true
    · rw [if_pos h]; exact (dgS_suf t).trans (List.suffix_cons _ _)
    · rw [if_neg h]; exact List.suffix_refl _
theorem signS_suf (l : List Nat) : signS l <:+ l := by
  by_cases h : cpAt l 0 = 43 ∨ cpAt l 0 = 45
  · rw [signS_yes h]; exact List.tail_suffix l
  · rw [signS_no h]; exact List.suffix_refl _
theorem pointS_suf (l : List Nat) : (pointS l).1 <:+ l := by
  by_cases h : cpAt l 0 = 46
  · cases h2 : dgB (cpAt l 1) with
    | true => rw [pointS_yes h h2]; exact (dgS_suf _).trans (List.tail_suffix l)
    | false => rw [pointS_open h h2]; exact List.suffix_refl _
  · rw [pointS_no h]; exact List.suffix_refl _
theorem expS_suf (l : List Nat) : expS l <:+ l := by
  by_cases h : cpAt l 0 = 101 ∨ cpAt l 0 = 69
  · cases h2 : expBL (cpAt l 1) (cpAt l 2) with
    | true => rw [expS_yes h h2]; exact ((dgS_suf _).trans (List.tail_suffix _)).trans (List.tail_suffix l)
    | false => rw [expS_no h h2]; exact List.suffix_refl _
  · rw [expS_not h]; exact List.suffix_refl _
theorem numS_suf' (l : List Nat) : (numS l).1 <:+ l := (((expS_suf _).trans (pointS_suf _)).trans (dgS_suf _)).trans (signS_suf l)
theorem numS_suf {l r : List Nat} {o : Bool} (h : numS l = (r, o)) : r <:+ l := by
  have := numS_suf' l
  rwa [h] at this
/-- A zero token. -/
def tok0 : Obj := .cells #[.int .i64 0, .int .i64 0, .int .i64 0, .int .i64 0, .bool false, .string ⟨#[]⟩] 47

set_option maxHeartbeats 8000000 in
set_option maxRecDepth 100000 in
theorem numericL (b : Nat) (s : ByteArray) (l : List Nat) (cv : Value) (o : Bool) (w : World) (h : SR b s l cv o w) :
    Calls Tryz.prog 56 #[.pointer (some ⟨b, 0, none⟩)] w fun e w' => e = .returned (tkV (numericS l).1 0 0) ∧ SR b s (numericS l).2.1 cv (o || (numericS l).2.2) w' ∧ Fr b w w' := by
  have hlt := h.lt
  obtain ⟨RES, hRES⟩ : ∃ R, numericS l = R := ⟨_, rfl⟩
  rw [hRES]
  have HRES := Lib.hid hRES
  clear hRES
  have P := Lib.hid (fun l o w h => peek0 b s l cv o w h)
  have P1 := Lib.hid (fun l o w h => peek1 b s l cv o w h)
  have P2 := Lib.hid (fun l o w h => peek2 b s l cv o w h)
  have K := Lib.hid (fun l o w h => takeL b s l cv o w h)
  have DG := Lib.hid (fun l o w h => digitsL b s l cv o w h)
  have NM := Lib.hid (fun l o w h => nameL b s l cv o w h)
  have D := Lib.hid (fun c w => specDigit c w)
  have I := Lib.hid (fun a b c w => specIdentifies a b c w)
  have hR : w.heap.size ≠ b := by omega
  have F0 := Lib.hid (Fr.refl b (w.alloc tok0))
  have H1 := h.alloc (.cells #[.int .i64 0, .int .i64 0, .int .i64 0, .int .i64 0, .bool false, .string ⟨#[]⟩] 47)
  clear h
  have H1' := Lib.hid H1
  obtain ⟨k0, hA0, hL0⟩ := H1
  have d1 := hL0.c1
  have A0 := Lib.hid hA0
  have hkz : k0 ≤ 4294967296 := Nat.le_trans hA0.le hA0.hz
  clear hA0 hL0
  have Q := Lib.hid (P.out l o _ H1'.out)
  obtain ⟨z, hz⟩ : ∃ z, cpAt l 0 = z := ⟨_, rfl⟩
  rw [hz] at Q
  have HZ := Lib.hid hz
  clear hz
  go_enter Tryz.func56, Tryz.ntmps56
  go_wp2_with fail
  refine (Q.out).mono ?_
  rintro e w' ⟨rfl, hww⟩
  first | (obtain rfl : _ = w' := hww) | (obtain rfl : _ = w' := hww.symm)
  go_upto_region 3 with fail
  go_cut [19] (fun v wx => v = .bool (z == 43 || z == 45) ∧ wx = w.alloc (.cells #[.int .i64 0, .int .i64 0, .int .i64 0, .int .i64 0, .bool false, .string ⟨#[]⟩] 47))
  case first =>
    cases t1 : (z == 43)
    all_goals
      go_wp2_with fail
      go_meet
      exact ⟨by first | rw [t1]; rfl | rfl, rfl⟩
  case rest =>
  obtain ⟨rfl, rfl⟩ := hcut
  obtain ⟨B, hB⟩ : ∃ B, (z == 43 || z == 45) = B := ⟨_, rfl⟩
  rw [hB]
  have HB := Lib.hid (show B = true ↔ (cpAt l 0 = 43 ∨ cpAt l 0 = 45) by rw [← hB, HZ.out]; simp)
  clear hB
  go_upto_if 19 with fail
  go_cut [3] (fun v wx => v = .int .i64 (k0 : Int) ∧ SR b s (signS l) cv o wx ∧ Fr b (w.alloc tok0) wx)
  case first =>
    cases B with
    | true =>
      have HX := Lib.hid (signS_yes (HB.out.1 rfl))
      go_wp2_with fail
      refine (K.out l o _ H1'.out).mono ?_
      rintro e w2 ⟨rfl, h2, f2⟩
      go_wp2_with fail
      go_meet
      exact ⟨rfl, by rw [HX.out]; exact h2, F0.out.trans f2⟩
    | false =>
      have HX := Lib.hid (signS_no (fun h => absurd (HB.out.2 h) (by decide)))
      go_wp2_with fail
      go_meet
      exact ⟨rfl, by rw [HX.out]; exact H1'.out, F0.out⟩
  case rest =>
    obtain ⟨rfl, h1, f1⟩ := hcut
    obtain ⟨l1, hl1⟩ : ∃ l1, signS l = l1 := ⟨_, rfl⟩
    have L1 := Lib.hid hl1
    rw [hl1] at h1
    have F1 := Lib.hid f1
    clear hl1 f1 d1
    obtain ⟨w1, rfl⟩ : ∃ w1 : World, w1 = wc := ⟨_, rfl⟩
    go_wp2_with fail
    refine (DG.out l1 o _ h1).mono ?_
    rintro e w2 ⟨rfl, h2, f2⟩
    obtain ⟨l2, hl2⟩ : ∃ l2, dgS l1 = l2 := ⟨_, rfl⟩
    have L2 := Lib.hid hl2
    rw [hl2] at h2
    have F2 := Lib.hid (F1.out.trans f2)
    have H2 := Lib.hid h2
    clear hl2 f2 h1 h2
    have Q := Lib.hid (P.out l2 o _ H2.out)
    have Q1 := Lib.hid (P1.out l2 o _ H2.out)
    obtain ⟨y, hy⟩ : ∃ y, cpAt l2 0 = y := ⟨_, rfl⟩
    obtain ⟨d, hd⟩ : ∃ d, dgB (cpAt l2 1) = d := ⟨_, rfl⟩
    have D1 := Lib.hid (D.out (cpAt l2 1))
    rw [hd] at D1
    rw [hy] at Q
    have HY := Lib.hid hy
    have HD := Lib.hid hd
    clear hy hd
    go_upto_region 6 with fail
    go_cut [31] (fun v wx => v = .bool (y == 46 && d) ∧ wx = w2)
    case first =>
      cases t1 : (y == 46)
      · go_wp2_with fail
        refine (Q.out).mono ?_
        rintro e w' ⟨rfl, hww⟩
        first | (obtain rfl : _ = w' := hww) | (obtain rfl : _ = w' := hww.symm)
        go_wp2_with fail
        go_meet
        exact ⟨by first | rw [t1]; rfl | rfl, rfl⟩
      · go_wp2_with fail
        refine (Q.out).mono ?_
        rintro e w' ⟨rfl, hww⟩
        first | (obtain rfl : _ = w' := hww) | (obtain rfl : _ = w' := hww.symm)
        go_wp2_with fail
        refine (Q1.out).mono ?_
        rintro e w' ⟨rfl, hww⟩
        first | (obtain rfl : _ = w' := hww) | (obtain rfl : _ = w' := hww.symm)
        go_wp2_with fail
        refine (D1.out _).mono ?_
        rintro e w' ⟨rfl, hww⟩
        first | (obtain rfl : _ = w' := hww) | (obtain rfl : _ = w' := hww.symm)
        go_wp2_with fail
        go_meet
        exact ⟨by first | rw [t1]; rfl | rfl, rfl⟩
    case rest =>
      obtain ⟨rfl, rfl⟩ := hcut
      obtain ⟨B2, hB2⟩ : ∃ B, (y == 46 && d) = B := ⟨_, rfl⟩
      rw [hB2]
      have HB2 := Lib.hid (show B2 = true ↔ (cpAt l2 0 = 46 ∧ dgB (cpAt l2 1) = true) by rw [← hB2, HY.out, HD.out]; simp)
      clear hB2
      go_upto_if 31 with fail
      go_cut [3] (fun v wx => v = .int .i64 (k0 : Int) ∧ SR b s (pointS l2).1 cv (o || (pointS l2).2) wx ∧ Fr b (w.alloc tok0) wx)
      case first =>
        cases B2 with
        | true =>
          have HX := Lib.hid (pointS_yes (HB2.out.1 rfl).1 (HB2.out.1 rfl).2)
          go_wp2_with fail
          refine (K.out l2 o _ H2.out).mono ?_
          rintro e w3 ⟨rfl, h3, f3⟩
          go_wp2_with fail
          refine (DG.out _ o _ h3).mono ?_
          rintro e w4 ⟨rfl, h4, f4⟩
          go_wp2_with fail
          go_meet
          exact ⟨rfl, by rw [HX.out, Bool.or_false]; exact h4, (F2.out.trans f3).trans f4⟩
        | false =>
          go_wp2_with fail
          refine (Q.out).mono ?_
          rintro e w' ⟨rfl, hww⟩
          first | (obtain rfl : _ = w' := hww) | (obtain rfl : _ = w' := hww.symm)
          cases t1 : (y == 46)
          · have HX := Lib.hid (pointS_no (l := l2) (by rw [HY.out]; exact beq_eq_false_iff_ne.1 t1))
            go_wp2_with fail
            go_meet
            exact ⟨rfl, by rw [HX.out, Bool.or_false]; exact H2.out, F2.out⟩
          · have HX := Lib.hid (pointS_open (l := l2) (by rw [HY.out]; exact beq_iff_eq.1 t1) (by
              cases hd : dgB (cpAt l2 1) with
              | false => rfl
              | true => exact absurd (HB2.out.2 ⟨by rw [HY.out]; exact beq_iff_eq.1 t1, hd⟩) (by decide)))
            obtain ⟨d3, y3⟩ := H2.out.c3'
            go_wp2_with fail
            go_meet
            exact ⟨rfl, by rw [HX.out, Bool.or_true]; exact H2.out.open' true, F2.out.trans (Fr.setCell _ _ _)⟩
      case rest =>
        obtain ⟨rfl, h1, f1⟩ := hcut
        obtain ⟨l3, hl3⟩ : ∃ l3, (pointS l2).1 = l3 := ⟨_, rfl⟩
        obtain ⟨o3, ho3⟩ : ∃ o3, (o || (pointS l2).2) = o3 := ⟨_, rfl⟩
        have L3 := Lib.hid hl3
        have O3 := Lib.hid ho3
        rw [hl3, ho3] at h1
        have F3 := Lib.hid f1
        have H3 := Lib.hid h1
        clear hl3 ho3 f1 h1 Q Q1 D1
        obtain ⟨w3, rfl⟩ : ∃ w1 : World, w1 = wc := ⟨_, rfl⟩
        have Q := Lib.hid (P.out l3 o3 _ H3.out)
        have Q1 := Lib.hid (P1.out l3 o3 _ H3.out)
        have Q2 := Lib.hid (P2.out l3 o3 _ H3.out)
        obtain ⟨x, hx⟩ : ∃ y, cpAt l3 0 = y := ⟨_, rfl⟩
        obtain ⟨x1, hx1⟩ : ∃ y, cpAt l3 1 = y := ⟨_, rfl⟩
        obtain ⟨x2, hx2⟩ : ∃ y, cpAt l3 2 = y := ⟨_, rfl⟩
        have D1 := Lib.hid (D.out x1)
        have D2 := Lib.hid (D.out x2)
        obtain ⟨d1, hd1⟩ : ∃ d, dgB x1 = d := ⟨_, rfl⟩
        obtain ⟨d2, hd2⟩ : ∃ d, dgB x2 = d := ⟨_, rfl⟩
        rw [hx] at Q
        rw [hx1] at Q1
        rw [hx2] at Q2
        rw [hd1] at D1
        rw [hd2] at D2
        have HX := Lib.hid hx
        have HX1 := Lib.hid hx1
        have HX2 := Lib.hid hx2
        have HD1 := Lib.hid hd1
        have HD2 := Lib.hid hd2
        clear hx hx1 hx2 hd1 hd2
        go_wp2_with fail
        refine (Q.out).mono ?_
        rintro e w' ⟨rfl, hww⟩
        first | (obtain rfl : _ = w' := hww) | (obtain rfl : _ = w' := hww.symm)
        go_upto_region 12 with fail
        go_cut [49] (fun v wx => v = .bool (x == 101 || x == 69) ∧ wx = w3)
        case first =>
          cases t1 : (x == 101)
          all_goals
            go_wp2_with fail
            go_meet
            exact ⟨by first | rw [t1]; rfl | rfl, rfl⟩
        case rest =>
          obtain ⟨rfl, e3⟩ := hcut
          have e3 := e3.symm
          subst e3
          obtain ⟨B3, hB3⟩ : ∃ B, (x == 101 || x == 69) = B := ⟨_, rfl⟩
          rw [hB3]
          have HB3 := Lib.hid (show B3 = true ↔ (cpAt l3 0 = 101 ∨ cpAt l3 0 = 69) by rw [← hB3, HX.out]; simp)
          clear hB3
          go_upto_if 49 with fail
          go_cut [3] (fun v wx => v = .int .i64 (k0 : Int) ∧ SR b s (expS l3) cv o3 wx ∧ Fr b (w.alloc tok0) wx)
          case first =>
            cases B3 with
            | false =>
              have HY := Lib.hid (expS_not (l := l3) (fun h => absurd (HB3.out.2 h) (by decide)))
              go_wp2_with fail
              go_meet
              exact ⟨rfl, by rw [HY.out]; exact H3.out, F3.out⟩
            | true =>
              go_wp2_with fail
              refine (Q1.out).mono ?_
              rintro e w' ⟨rfl, hww⟩
              first | (obtain rfl : _ = w' := hww) | (obtain rfl : _ = w' := hww.symm)
              go_upto_region 14 with fail
              go_cut [66] (fun v wx => v = .bool (d1 || ((x1 == 43 || x1 == 45) && d2)) ∧ wx = w3)
              case first =>
                cases d1 with
                | true =>
                  go_wp2_with fail
                  refine (D1.out _).mono ?_
                  rintro e w' ⟨rfl, hww⟩
                  first | (obtain rfl : _ = w' := hww) | (obtain rfl : _ = w' := hww.symm)
                  go_wp2_with fail
                  go_meet
                  exact ⟨rfl, rfl⟩
                | false =>
                  cases t1 : (x1 == 43)
                  · cases t2 : (x1 == 45)
                    · go_wp2_with fail
                      refine (D1.out _).mono ?_
                      rintro e w' ⟨rfl, hww⟩
                      first | (obtain rfl : _ = w' := hww) | (obtain rfl : _ = w' := hww.symm)
                      go_wp2_with fail
                      go_meet
                      exact ⟨by first | rw [t1, t2]; rfl | rfl, rfl⟩
                    · go_wp2_with fail
                      refine (D1.out _).mono ?_
                      rintro e w' ⟨rfl, hww⟩
                      first | (obtain rfl : _ = w' := hww) | (obtain rfl : _ = w' := hww.symm)
                      go_wp2_with fail
                      refine (Q2.out).mono ?_
                      rintro e w' ⟨rfl, hww⟩
                      first | (obtain rfl : _ = w' := hww) | (obtain rfl : _ = w' := hww.symm)
                      go_wp2_with fail
                      refine (D2.out _).mono ?_
                      rintro e w' ⟨rfl, hww⟩
                      first | (obtain rfl : _ = w' := hww) | (obtain rfl : _ = w' := hww.symm)
                      go_wp2_with fail
                      go_meet
                      exact ⟨by first | rw [t1, t2]; rfl | rfl, rfl⟩
                  · go_wp2_with fail
                    refine (D1.out _).mono ?_
                    rintro e w' ⟨rfl, hww⟩
                    first | (obtain rfl : _ = w' := hww) | (obtain rfl : _ = w' := hww.symm)
                    go_wp2_with fail
                    refine (Q2.out).mono ?_
                    rintro e w' ⟨rfl, hww⟩
                    first | (obtain rfl : _ = w' := hww) | (obtain rfl : _ = w' := hww.symm)
                    go_wp2_with fail
                    refine (D2.out _).mono ?_
                    rintro e w' ⟨rfl, hww⟩
                    first | (obtain rfl : _ = w' := hww) | (obtain rfl : _ = w' := hww.symm)
                    go_wp2_with fail
                    go_meet
                    exact ⟨by first | rw [t1]; rfl | rfl, rfl⟩
              case rest =>
                obtain ⟨rfl, e3⟩ := hcut
                have e3 := e3.symm
                subst e3
                obtain ⟨B4, hB4⟩ : ∃ B, (d1 || ((x1 == 43 || x1 == 45) && d2)) = B := ⟨_, rfl⟩
                rw [hB4]
                have HB4 := Lib.hid (show B4 = expBL (cpAt l3 1) (cpAt l3 2) by
                  rw [← hB4, ← HD1.out, ← HD2.out, HX1.out, HX2.out]
                  unfold expBL
                  rw [Bool.eq_iff_iff]; simp)
                clear hB4
                cases B4 with
                | true =>
                  have HY := Lib.hid (expS_yes (l := l3) (HB3.out.1 (by first | rfl | trivial)) HB4.out.symm)
                  go_wp2_with fail
                  refine (K.out l3 o3 _ H3.out).mono ?_
                  rintro e w4 ⟨rfl, h4, f4⟩
                  go_wp2_with fail
                  refine (K.out _ o3 _ h4).mono ?_
                  rintro e w5 ⟨rfl, h5, f5⟩
                  go_wp2_with fail
                  refine (DG.out _ o3 _ h5).mono ?_
                  rintro e w6 ⟨rfl, h6, f6⟩
                  go_wp2_with fail
                  go_meet
                  exact ⟨rfl, by rw [HY.out]; exact h6, ((F3.out.trans f4).trans f5).trans f6⟩
                | false =>
                  have HY := Lib.hid (expS_no (l := l3) (HB3.out.1 (by first | rfl | trivial)) HB4.out.symm)
                  go_wp2_with fail
                  go_meet
                  exact ⟨rfl, by rw [HY.out]; exact H3.out, F3.out⟩
          case rest =>
            obtain ⟨rfl, h1, f1⟩ := hcut
            obtain ⟨w4, rfl⟩ : ∃ w1 : World, w1 = wc := ⟨_, rfl⟩
            obtain ⟨l4, hl4⟩ : ∃ l4, expS l3 = l4 := ⟨_, rfl⟩
            rw [hl4] at h1
            have NS := Lib.hid (show numS l = (l4, (pointS l2).2) by unfold numS; rw [L1.out, L2.out, L3.out, hl4])
            have H4 := Lib.hid h1
            have F4 := Lib.hid f1
            have ZR := Lib.hid ((ZB.new w).fr f1 hR)
            clear f1 hl4 Q Q1 Q2 D1 D2
            have Q := Lib.hid (P.out l4 o3 _ H4.out)
            have Q1 := Lib.hid (P1.out l4 o3 _ H4.out)
            have Q2 := Lib.hid (P2.out l4 o3 _ H4.out)
            have I1 := Lib.hid (I.out (cpAt l4 0) (cpAt l4 1) (cpAt l4 2))
            obtain ⟨bi, hbi⟩ : ∃ bi, identZ (cpAt l4 0) (cpAt l4 1) (cpAt l4 2) = bi := ⟨_, rfl⟩
            rw [hbi] at I1
            have BI := Lib.hid hbi
            clear hbi h1
            cases bi with
            | true =>
              have HN := Lib.hid (show numericS l = (⟨26, blen l - blen l4, false, []⟩, (nameS l4).2.1, (pointS l2).2 || (nameS l4).2.2) by unfold numericS; rw [NS.out]; dsimp only; rw [if_pos BI.out])
              go_wp2_with fail
              refine (Q.out).mono ?_
              rintro e w' ⟨rfl, hww⟩
              first | (obtain rfl : _ = w' := hww) | (obtain rfl : _ = w' := hww.symm)
              go_wp2_with fail
              refine (Q1.out).mono ?_
              rintro e w' ⟨rfl, hww⟩
              first | (obtain rfl : _ = w' := hww) | (obtain rfl : _ = w' := hww.symm)
              go_wp2_with fail
              refine (Q2.out).mono ?_
              rintro e w' ⟨rfl, hww⟩
              first | (obtain rfl : _ = w' := hww) | (obtain rfl : _ = w' := hww.symm)
              go_wp2_with fail
              refine (I1.out _).mono ?_
              rintro e w' ⟨rfl, hww⟩
              first | (obtain rfl : _ = w' := hww) | (obtain rfl : _ = w' := hww.symm)
              obtain ⟨k4, hA4, hL4⟩ := H4.out
              have d1 := hL4.c1
              have s0 := A0.out.size
              have s4 := hA4.size
              have hle : (encs l4).length ≤ (encs l).length := suf_enc (numS_suf NS.out)
              have hk4 : k0 ≤ k4 := by omega
              have hk4z : k4 ≤ 4294967296 := Nat.le_trans hA4.le hA4.hz
              have HU := Lib.hid (show ((k4 : Int) - (k0 : Int)) = ((blen l - blen l4 : Nat) : Int) by unfold blen; omega)
              clear hA4 hL4 s0 s4 hle
              go_wp2_with fail
              refine (NM.out l4 o3 _ H4.out).mono ?_
              rintro e w5 ⟨rfl, h5, f5⟩
              have zb := ZR.out.fr f5 hR
              obtain ⟨c0, c1, c2, c3, c4, c5⟩ := zb.c
              obtain ⟨z0, z1, z2, z3, z4, z5⟩ := zb.z
              have ZZ := Lib.hid zb
              clear zb
              go_upto_region 21 with fail
              iterate 3 go_step
              iterate 13 (first | go_values | go_skip | go_guarded | go_step | go_upon | go_in | go_back | skip)
              refine tok_end (R := w.heap.size) rfl rfl rfl ZZ.out ?_
              rw [← HRES.out, HN.out]
              dsimp only
              rw [← Bool.or_assoc, O3.out]
              exact ⟨tk_ret rfl rfl rfl HU.out rfl rfl, h5.put6 (Ne.symm hR) _ _ _ _ _ _, (F4.out.made.trans f5).put6 (Nat.le_refl _) _ _ _ _ _ _⟩
            | false =>
              obtain ⟨p, hp⟩ : ∃ p, cpAt l4 0 = p := ⟨_, rfl⟩
              by_cases h37 : p = 37
              · subst h37
                have HN := Lib.hid (show numericS l = (⟨34, 0, false, []⟩, l4.tail, (pointS l2).2) by unfold numericS; rw [NS.out]; dsimp only; rw [if_neg (by rw [BI.out]; decide), if_pos hp])
                have Q3 := Lib.hid (P.out l4 o3 _ H4.out)
                rw [hp] at Q3
                clear hp
                go_wp2_with fail
                refine (Q.out).mono ?_
                rintro e w' ⟨rfl, hww⟩
                first | (obtain rfl : _ = w' := hww) | (obtain rfl : _ = w' := hww.symm)
                go_wp2_with fail
                refine (Q1.out).mono ?_
                rintro e w' ⟨rfl, hww⟩
                first | (obtain rfl : _ = w' := hww) | (obtain rfl : _ = w' := hww.symm)
                go_wp2_with fail
                refine (Q2.out).mono ?_
                rintro e w' ⟨rfl, hww⟩
                first | (obtain rfl : _ = w' := hww) | (obtain rfl : _ = w' := hww.symm)
                go_wp2_with fail
                refine (I1.out _).mono ?_
                rintro e w' ⟨rfl, hww⟩
                first | (obtain rfl : _ = w' := hww) | (obtain rfl : _ = w' := hww.symm)
                go_wp2_with fail
                refine (Q3.out).mono ?_
                rintro e w' ⟨rfl, hww⟩
                first | (obtain rfl : _ = w' := hww) | (obtain rfl : _ = w' := hww.symm)
                go_wp2_with fail
                refine (K.out l4 o3 _ H4.out).mono ?_
                rintro e w5 ⟨rfl, h5, f5⟩
                have zb := ZR.out.fr f5 hR
                obtain ⟨c0, c1, c2, c3, c4, c5⟩ := zb.c
                obtain ⟨z0, z1, z2, z3, z4, z5⟩ := zb.z
                have ZZ := Lib.hid zb
                clear zb
                go_upto_region 24 with fail
                iterate 3 go_step
                iterate 10 (first | go_values | go_skip | go_guarded | go_step | go_upon | go_in | go_back | skip)
                refine tok_end (R := w.heap.size) rfl rfl rfl ZZ.out ?_
                rw [← HRES.out, HN.out]
                dsimp only
                rw [O3.out]
                exact ⟨tk_ret rfl rfl rfl rfl rfl rfl, h5.put6 (Ne.symm hR) _ _ _ _ _ _, (F4.out.made.trans f5).put6 (Nat.le_refl _) _ _ _ _ _ _⟩
              · have HN := Lib.hid (show numericS l = (⟨30, 0, false, []⟩, l4, (pointS l2).2) by unfold numericS; rw [NS.out]; dsimp only; rw [if_neg (by rw [BI.out]; decide), if_neg (by rw [hp]; exact h37)])
                have Q3 := Lib.hid (P.out l4 o3 _ H4.out)
                rw [hp] at Q3
                have tp : (p == 37) = false := beq_eq_false_iff_ne.2 h37
                clear hp h37
                go_wp2_with fail
                refine (Q.out).mono ?_
                rintro e w' ⟨rfl, hww⟩
                first | (obtain rfl : _ = w' := hww) | (obtain rfl : _ = w' := hww.symm)
                go_wp2_with fail
                refine (Q1.out).mono ?_
                rintro e w' ⟨rfl, hww⟩
                first | (obtain rfl : _ = w' := hww) | (obtain rfl : _ = w' := hww.symm)
                go_wp2_with fail
                refine (Q2.out).mono ?_
                rintro e w' ⟨rfl, hww⟩
                first | (obtain rfl : _ = w' := hww) | (obtain rfl : _ = w' := hww.symm)
                go_wp2_with fail
                refine (I1.out _).mono ?_
                rintro e w' ⟨rfl, hww⟩
                first | (obtain rfl : _ = w' := hww) | (obtain rfl : _ = w' := hww.symm)
                go_wp2_with fail
                refine (Q3.out).mono ?_
                rintro e w' ⟨rfl, hww⟩
                first | (obtain rfl : _ = w' := hww) | (obtain rfl : _ = w' := hww.symm)
                have zb := ZR.out
                obtain ⟨c0, c1, c2, c3, c4, c5⟩ := zb.c
                obtain ⟨z0, z1, z2, z3, z4, z5⟩ := zb.z
                have ZZ := Lib.hid zb
                clear zb
                go_upto_region 25 with fail
                iterate 3 go_step
                iterate 10 (first | go_values | go_skip | go_guarded | go_step | go_upon | go_in | go_back | skip)
                refine tok_end (R := w.heap.size) rfl rfl rfl ZZ.out ?_
                rw [← HRES.out, HN.out]
                dsimp only
                rw [O3.out]
                exact ⟨tk_ret rfl rfl rfl rfl rfl rfl, H4.out.put6 (Ne.symm hR) _ _ _ _ _ _, (F4.out.made).put6 (Nat.le_refl _) _ _ _ _ _ _⟩
end Go.Proofs.YtmgkccnfhkcncaaGreatDoor
