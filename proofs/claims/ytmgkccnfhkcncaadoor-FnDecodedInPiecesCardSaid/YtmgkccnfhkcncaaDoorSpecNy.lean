/-
  The reference's lexer: the next token, ahead of a code point.
-/
import Derived.Test.YtmgkccnfhkcncaaDoorSpecNx
namespace Go.Proofs.YtmgkccnfhkcncaaDoor
open Go.RowKit

theorem At.skip {s : ByteArray} {k c : Nat} {t : List Nat} (h : At s k (c :: t)) (hc : c < 128) : At s (k + 1) t := by
  have := h.tail
  rwa [show wid (c :: t) = 1 by show (enc c).length = 1; rw [enc_ascii c hc]; rfl] at this
theorem At.skip3 {s : ByteArray} {k c : Nat} {t : List Nat} (h : At s k (c :: t)) (hc : c < 128) (h0 : 0 ≤ cpAt t 0 ∧ cpAt t 0 < 128) (h1 : 0 ≤ cpAt t 1 ∧ cpAt t 1 < 128) : At s (k + 3) (t.drop 2) := by
  match t, h0, h1, h with
  | [], h0, _, _ => rw [cpAt_nil] at h0; omega
  | [_], _, h1, _ => rw [cpAt_succ_cons, cpAt_nil] at h1; omega
  | d :: e :: u, h0, h1, h =>
    rw [cpAt_zero_cons] at h0
    rw [cpAt_succ_cons, cpAt_zero_cons] at h1
    exact ((h.skip hc).skip (by omega)).skip (by omega)
theorem At.skip4 {s : ByteArray} {k c : Nat} {t : List Nat} (h : At s k (c :: t)) (hc : c < 128) (h0 : 0 ≤ cpAt t 0 ∧ cpAt t 0 < 128) (h1 : 0 ≤ cpAt t 1 ∧ cpAt t 1 < 128) (h2 : 0 ≤ cpAt t 2 ∧ cpAt t 2 < 128) : At s (k + 4) (t.drop 3) := by
  match t, h0, h1, h2, h with
  | [], h0, _, _, _ => rw [cpAt_nil] at h0; omega
  | [_], _, h1, _, _ => rw [cpAt_succ_cons, cpAt_nil] at h1; omega
  | [_, _], _, _, h2, _ => rw [cpAt_succ_cons, cpAt_succ_cons, cpAt_nil] at h2; omega
  | d :: e :: f :: u, h0, h1, h2, h =>
    rw [cpAt_zero_cons] at h0
    rw [cpAt_succ_cons, cpAt_zero_cons] at h1
    rw [cpAt_succ_cons, cpAt_succ_cons, cpAt_zero_cons] at h2
    exact (((h.skip hc).skip (by omega)).skip (by omega)).skip (by omega)
theorem SR.setAtN {b : Nat} {s : ByteArray} {l l' : List Nat} {cv : Value} {o : Bool} {w : World} (h : SR b s l cv o w) {k n : Nat} (hA : At s (k + n) l') : SR b s l' cv o (w.setCell ⟨b, 1, none⟩ (.int .i64 ((k : Int) + (n : Int)))) := by
  have := h.setAt hA
  rwa [Int.natCast_add] at this
/-- The end of a function that hands a token back, where its zero token's stores stand behind what else was done. -/
theorem tok_endR {fn : Func} {post : Ending → World → Prop} {a : Act} {w' : World} {R : Nat} {v0 v1 v2 v3 v4 v5 : Value} (hr : fn.results = #[.cell 2 29]) (hp : a.tmps.getD 2 undef = .pointer (some ⟨R, 0, none⟩)) (hd : a.defers = []) (hR : w'.heap.size = R)
    (hpost : post (.returned (.agg #[v0, v1, v2, v3, v4, v5])) (w'.alloc (.cells #[v0, v1, v2, v3, v4, v5] 29))) : bodyPost Tryd.prog fn post .ret a (w'.alloc (.cells #[v0, v1, v2, v3, v4, v5] 29)) := by
  subst hR
  exact tok_endN hr hp hd hpost

set_option maxHeartbeats 8000000 in
set_option maxRecDepth 100000 in
theorem nextL (b : Nat) (s : ByteArray) (c : Nat) (t : List Nat) (cv : Value) (o : Bool) (w : World) (h : SR b s (c :: t) cv o w) :
    Calls Tryd.prog 47 #[.pointer (some ⟨b, 0, none⟩)] w fun e w' => e = .returned (tkV (nextS c t).1 0 0) ∧ SR b s (nextS c t).2.1 cv (o || (nextS c t).2.2) w' ∧ Fr b w w' := by
  have hlt := h.lt
  have hR : w.heap.size ≠ b := by omega
  have H0 := Lib.hid h
  have H1 := Lib.hid (h.alloc (.cells #[.int .i64 0, .int .i64 0, .int .i64 0, .int .i64 0, .bool false, .string ⟨#[]⟩] 29))
  have Z0 := Lib.hid (ZB.new w)
  have F0 := Lib.hid ((Fr.refl b w).alloc (.cells #[.int .i64 0, .int .i64 0, .int .i64 0, .int .i64 0, .bool false, .string ⟨#[]⟩] 29))
  clear h
  obtain ⟨RES, hRES⟩ : ∃ R, nextS c t = R := ⟨_, rfl⟩
  rw [hRES]
  have HRES := Lib.hid hRES
  clear hRES
  have P0 := Lib.hid (peek0 b s (c :: t) cv o _ H1.out)
  have P1 := Lib.hid (peek1 b s (c :: t) cv o _ H1.out)
  have P2 := Lib.hid (peek2 b s (c :: t) cv o _ H1.out)
  have P3 := Lib.hid (peek3 b s (c :: t) cv o _ H1.out)
  rw [cpAt_zero_cons] at P0
  rw [cpAt_succ_cons] at P1 P2 P3
  obtain ⟨x, hx⟩ : ∃ x, cpAt t 0 = x := ⟨_, rfl⟩
  obtain ⟨y, hy⟩ : ∃ x, cpAt t 1 = x := ⟨_, rfl⟩
  obtain ⟨z, hz⟩ : ∃ x, cpAt t 2 = x := ⟨_, rfl⟩
  rw [hx] at P1
  rw [hy] at P2
  rw [hz] at P3
  have HXX := Lib.hid hx
  have HYY := Lib.hid hy
  have HZZ := Lib.hid hz
  clear hx hy hz
  have tm : ((c : Int) == -1) = false := beq_eq_false_iff_ne.2 (by omega)
  have WS := Lib.hid (fun w => specSpace (c : Int) w)
  rw [sp_nat] at WS
  cases hw : isWs c with
  | true =>
    rw [hw] at WS
    have S1 := Lib.hid (spacesL b s (c :: t) cv o _ H1.out)
    rw [spS_cons, if_pos hw] at S1
    have HX := Lib.hid (show RES = (⟨38, 0, false, []⟩, spS t, false) by rw [← HRES.out]; unfold nextS; rw [if_pos hw])
    clear hw
    go_enter Tryd.func47, Tryd.ntmps47
    go_wp2_with fail
    refine (P0.out).mono ?_
    rintro e w' ⟨rfl, hww⟩
    first | (obtain rfl : _ = w' := hww) | (obtain rfl : _ = w' := hww.symm)
    go_wp2_with fail
    refine (P1.out).mono ?_
    rintro e w' ⟨rfl, hww⟩
    first | (obtain rfl : _ = w' := hww) | (obtain rfl : _ = w' := hww.symm)
    go_wp2_with fail
    refine (P2.out).mono ?_
    rintro e w' ⟨rfl, hww⟩
    first | (obtain rfl : _ = w' := hww) | (obtain rfl : _ = w' := hww.symm)
    go_wp2_with fail
    refine (WS.out _).mono ?_
    rintro e w' ⟨rfl, hww⟩
    first | (obtain rfl : _ = w' := hww) | (obtain rfl : _ = w' := hww.symm)
    go_wp2_with fail
    refine (S1.out).mono ?_
    rintro e w2 ⟨rfl, h2, f2⟩
    have zb := Z0.out.fr f2 hR
    obtain ⟨c0, c1, c2, c3, c4, c5⟩ := zb.c
    obtain ⟨z0, z1, z2, z3, z4, z5⟩ := zb.z
    have ZZ := Lib.hid zb
    clear zb
    go_wp2_with fail
    refine tok_end (R := w.heap.size) rfl rfl rfl ZZ.out ?_
    rw [HX.out]
    dsimp only
    exact ⟨tk_ret rfl rfl rfl rfl rfl rfl, (show SR b s (spS t) cv (o || false) w2 by rw [Bool.or_false]; exact h2).put6 (Ne.symm hR) _ _ _ _ _ _, (F0.out.trans f2).put6 (Nat.le_refl _) _ _ _ _ _ _⟩
  | false =>
    rw [hw] at WS
    by_cases hq : c = 34 ∨ c = 39
    · have QL := Lib.hid (quotedL b s c t cv o _ H1.out hq)
      have HX := Lib.hid (show RES = (quotTk c t, (quotS c t).2.2.1, (quotS c t).2.2.2) by rw [← HRES.out]; unfold nextS; rw [if_neg (by rw [hw]; decide), if_pos hq]; rfl)
      obtain ⟨tk, htk⟩ : ∃ x, quotTk c t = x := ⟨_, rfl⟩
      rw [htk] at HX QL
      rw [tkV_agg] at QL
      clear hw htk
      rcases hq with rfl | rfl
      all_goals
        go_enter Tryd.func47, Tryd.ntmps47
        go_wp2_with fail
        refine (P0.out).mono ?_
        rintro e w' ⟨rfl, hww⟩
        first | (obtain rfl : _ = w' := hww) | (obtain rfl : _ = w' := hww.symm)
        go_wp2_with fail
        refine (P1.out).mono ?_
        rintro e w' ⟨rfl, hww⟩
        first | (obtain rfl : _ = w' := hww) | (obtain rfl : _ = w' := hww.symm)
        go_wp2_with fail
        refine (P2.out).mono ?_
        rintro e w' ⟨rfl, hww⟩
        first | (obtain rfl : _ = w' := hww) | (obtain rfl : _ = w' := hww.symm)
        go_wp2_with fail
        refine (WS.out _).mono ?_
        rintro e w' ⟨rfl, hww⟩
        first | (obtain rfl : _ = w' := hww) | (obtain rfl : _ = w' := hww.symm)
        go_wp2_with fail
        refine (QL.out).mono ?_
        rintro e w2 ⟨rfl, h2, f2⟩
        have zb := Z0.out.fr f2 hR
        obtain ⟨c0, c1, c2, c3, c4, c5⟩ := zb.c
        obtain ⟨z0, z1, z2, z3, z4, z5⟩ := zb.z
        have ZZ := Lib.hid zb
        clear zb
        go_wp2_with fail
        refine tok_end (R := w.heap.size) rfl rfl rfl ZZ.out ?_
        rw [HX.out]
        dsimp only
        exact ⟨tk_ret rfl rfl rfl rfl rfl rfl, (h2).put6 (Ne.symm hR) _ _ _ _ _ _, (F0.out.trans f2).put6 (Nat.le_refl _) _ _ _ _ _ _⟩
    · have t34 : ((c : Int) == 34) = false := beq_eq_false_iff_ne.2 (fun e => hq (Or.inl (by omega)))
      have t39 : ((c : Int) == 39) = false := beq_eq_false_iff_ne.2 (fun e => hq (Or.inr (by omega)))
      have CN := Lib.hid (fun w => specContinues x w)
      have ES := Lib.hid (fun w => specEscapes x y w)
      obtain ⟨sc, hsc⟩ : ∃ v, scB x = v := ⟨_, rfl⟩
      obtain ⟨es, hes⟩ : ∃ v, escZ x y = v := ⟨_, rfl⟩
      rw [hsc] at CN
      rw [hes] at ES
      have HSC := Lib.hid hsc
      have HES := Lib.hid hes
      have HW := Lib.hid hw
      have HQ := Lib.hid hq
      clear hsc hes hw hq
      go_enter Tryd.func47, Tryd.ntmps47
      go_wp2_with fail
      refine (P0.out).mono ?_
      rintro e w' ⟨rfl, hww⟩
      first | (obtain rfl : _ = w' := hww) | (obtain rfl : _ = w' := hww.symm)
      go_wp2_with fail
      refine (P1.out).mono ?_
      rintro e w' ⟨rfl, hww⟩
      first | (obtain rfl : _ = w' := hww) | (obtain rfl : _ = w' := hww.symm)
      go_wp2_with fail
      refine (P2.out).mono ?_
      rintro e w' ⟨rfl, hww⟩
      first | (obtain rfl : _ = w' := hww) | (obtain rfl : _ = w' := hww.symm)
      go_wp2_with fail
      refine (WS.out _).mono ?_
      rintro e w' ⟨rfl, hww⟩
      first | (obtain rfl : _ = w' := hww) | (obtain rfl : _ = w' := hww.symm)
      go_upto_region 9 with fail
      go_cut [32] (fun v wx => v = .bool (((c : Int) == 35) && (sc || es)) ∧ wx = w.alloc (.cells #[.int .i64 0, .int .i64 0, .int .i64 0, .int .i64 0, .bool false, .string ⟨#[]⟩] 29))
      case first =>
        cases t35 : ((c : Int) == 35)
        · go_wp2_with fail
          go_meet
          exact ⟨by first | rw [t35]; rfl | rfl, rfl⟩
        · cases sc with
          | true =>
            go_wp2_with fail
            refine (CN.out _).mono ?_
            rintro e w' ⟨rfl, hww⟩
            first | (obtain rfl : _ = w' := hww) | (obtain rfl : _ = w' := hww.symm)
            go_wp2_with fail
            go_meet
            exact ⟨by first | rw [t35]; rfl | rfl, rfl⟩
          | false =>
            go_wp2_with fail
            refine (CN.out _).mono ?_
            rintro e w' ⟨rfl, hww⟩
            first | (obtain rfl : _ = w' := hww) | (obtain rfl : _ = w' := hww.symm)
            go_wp2_with fail
            refine (ES.out _).mono ?_
            rintro e w' ⟨rfl, hww⟩
            first | (obtain rfl : _ = w' := hww) | (obtain rfl : _ = w' := hww.symm)
            go_wp2_with fail
            go_meet
            exact ⟨by first | rw [t35]; rfl | rfl, rfl⟩
      case rest =>
        obtain ⟨rfl, rfl⟩ := hcut
        obtain ⟨B9, hB9⟩ : ∃ v, (((c : Int) == 35) && (sc || es)) = v := ⟨_, rfl⟩
        rw [hB9]
        have HB9 := Lib.hid (show B9 = true ↔ (c = 35 ∧ (scB (cpAt t 0) || escZ (cpAt t 0) (cpAt t 1)) = true) by
          rw [← hB9, HXX.out, HYY.out, HSC.out, HES.out, Bool.and_eq_true, beq_iff_eq]
          constructor
          · rintro ⟨h1, h2⟩; exact ⟨by omega, h2⟩
          · rintro ⟨h1, h2⟩; exact ⟨by omega, h2⟩)
        clear hB9
        cases B9 with
        | true =>
          have hb := HB9.out.1 (by first | rfl | trivial)
          have K := Lib.hid (take_cons b s c t cv o _ H1.out)
          have I1 := Lib.hid (fun w => specIdentifies x y z w)
          obtain ⟨i1, hi1⟩ : ∃ v, identZ x y z = v := ⟨_, rfl⟩
          rw [hi1] at I1
          have HX := Lib.hid (show RES = (⟨28, 0, i1, (nameS t).1⟩, (nameS t).2.1, (nameS t).2.2) by
            rw [← HRES.out]; unfold nextS
            rw [if_neg (by rw [HW.out]; decide), if_neg HQ.out, if_pos hb, HXX.out, HYY.out, HZZ.out, hi1])
          clear hb hi1
          go_wp2_with fail
          refine (K.out).mono ?_
          rintro e w2 ⟨rfl, h2, f2⟩
          have P4 := Lib.hid (peek2 b s t cv o _ h2)
          rw [HZZ.out] at P4
          go_wp2_with fail
          refine (P4.out).mono ?_
          rintro e w' ⟨rfl, hww⟩
          first | (obtain rfl : _ = w' := hww) | (obtain rfl : _ = w' := hww.symm)
          go_wp2_with fail
          refine (I1.out _).mono ?_
          rintro e w' ⟨rfl, hww⟩
          first | (obtain rfl : _ = w' := hww) | (obtain rfl : _ = w' := hww.symm)
          go_wp2_with fail
          refine (nameL b s t cv o _ h2).mono ?_
          rintro e w3 ⟨rfl, h3, f3⟩
          have F3 := Lib.hid ((F0.out.trans f2).trans f3)
          have Z3 := Lib.hid ((Z0.out.fr f2 hR).fr f3 hR)
          clear f2 f3
          have zb := Z3.out
          obtain ⟨c0, c1, c2, c3, c4, c5⟩ := zb.c
          obtain ⟨z0, z1, z2, z3, z4, z5⟩ := zb.z
          have ZZ := Lib.hid zb
          clear zb
          go_wp2_with fail
          refine tok_end (R := w.heap.size) rfl rfl rfl ZZ.out ?_
          rw [HX.out]
          dsimp only
          exact ⟨tk_ret rfl rfl rfl rfl rfl rfl, h3.put6 (Ne.symm hR) _ _ _ _ _ _, F3.out.put6 (Nat.le_refl _) _ _ _ _ _ _⟩
        | false =>
          have N9 := Lib.hid (show ¬ (c = 35 ∧ (scB (cpAt t 0) || escZ (cpAt t 0) (cpAt t 1)) = true) from fun h => absurd (HB9.out.2 h) (by decide))
          have CT := Lib.hid (fun w => specCounts (c : Int) x y w)
          obtain ⟨ct, hct⟩ : ∃ v, countZ (c : Int) x y = v := ⟨_, rfl⟩
          rw [hct] at CT
          have HCT := Lib.hid hct
          clear hct
          cases ct with
          | true =>
            have NU := Lib.hid (numericL b s (c :: t) cv o _ H1.out)
            have HX := Lib.hid (show RES = numericS (c :: t) by
              rw [← HRES.out]; unfold nextS
              rw [if_neg (by rw [HW.out]; decide), if_neg HQ.out, if_neg N9.out, if_pos (by rw [HXX.out, HYY.out]; exact HCT.out)])
            obtain ⟨RN, hRN⟩ : ∃ v, numericS (c :: t) = v := ⟨_, rfl⟩
            rw [hRN] at HX NU
            rw [tkV_agg] at NU
            clear hRN
            go_wp2_with fail
            refine (CT.out _).mono ?_
            rintro e w' ⟨rfl, hww⟩
            first | (obtain rfl : _ = w' := hww) | (obtain rfl : _ = w' := hww.symm)
            go_wp2_with fail
            refine (NU.out).mono ?_
            rintro e w2 ⟨rfl, h2, f2⟩
            have zb := Z0.out.fr f2 hR
            obtain ⟨c0, c1, c2, c3, c4, c5⟩ := zb.c
            obtain ⟨z0, z1, z2, z3, z4, z5⟩ := zb.z
            have ZZ := Lib.hid zb
            clear zb
            go_wp2_with fail
            refine tok_end (R := w.heap.size) rfl rfl rfl ZZ.out ?_
            rw [HX.out]
            exact ⟨tk_ret rfl rfl rfl rfl rfl rfl, h2.put6 (Ne.symm hR) _ _ _ _ _ _, (F0.out.trans f2).put6 (Nat.le_refl _) _ _ _ _ _ _⟩
          | false =>
            go_wp2_with fail
            refine (CT.out _).mono ?_
            rintro e w' ⟨rfl, hww⟩
            first | (obtain rfl : _ = w' := hww) | (obtain rfl : _ = w' := hww.symm)
            go_upto_region 15 with fail
            go_cut [62] (fun v wx => v = .bool (((c : Int) == 45) && (x == 45) && (y == 62)) ∧ wx = w.alloc (.cells #[.int .i64 0, .int .i64 0, .int .i64 0, .int .i64 0, .bool false, .string ⟨#[]⟩] 29))
            case first =>
              cases t45 : ((c : Int) == 45)
              · go_wp2_with fail
                go_meet
                exact ⟨by first | rw [t45]; rfl | rfl, rfl⟩
              · cases tx : (x == 45)
                · go_wp2_with fail
                  go_meet
                  exact ⟨by first | rw [t45, tx]; rfl | rfl, rfl⟩
                · go_wp2_with fail
                  go_meet
                  exact ⟨by first | rw [t45, tx]; rfl | rfl, rfl⟩
            case rest =>
              obtain ⟨rfl, rfl⟩ := hcut
              obtain ⟨B15, hB15⟩ : ∃ v, (((c : Int) == 45) && (x == 45) && (y == 62)) = v := ⟨_, rfl⟩
              rw [hB15]
              have HB15 := Lib.hid (show B15 = true ↔ (c = 45 ∧ cpAt t 0 = 45 ∧ cpAt t 1 = 62) by
                rw [← hB15, HXX.out, HYY.out, Bool.and_eq_true, Bool.and_eq_true, beq_iff_eq, beq_iff_eq, beq_iff_eq]
                constructor
                · rintro ⟨⟨h1, h2⟩, h3⟩; exact ⟨by omega, h2, h3⟩
                · rintro ⟨h1, h2, h3⟩; exact ⟨⟨by omega, h2⟩, h3⟩)
              clear hB15
              cases B15 with
              | true =>
                have hb := HB15.out.1 (by first | rfl | trivial)
                have HX := Lib.hid (show RES = (⟨4, 0, false, []⟩, t.drop 2, false) by
                  rw [← HRES.out]; unfold nextS
                  rw [if_neg (by rw [HW.out]; decide), if_neg HQ.out, if_neg N9.out, if_neg (by rw [HXX.out, HYY.out, HCT.out]; decide), if_pos hb])
                obtain ⟨k0, hA0, d1⟩ := H1.out.c1
                have z1 := H1.out.fz 1
                have hkz : k0 ≤ 4294967296 := Nat.le_trans hA0.le hA0.hz
                have A3 := Lib.hid (show At s (k0 + 3) (t.drop 2) by
                  obtain ⟨h1, h2, h3⟩ := hb
                  exact hA0.skip3 (by omega) (by omega) (by omega))
                clear hb hA0
                go_wp2_with fail
                refine tok_endR (R := w.heap.size) rfl rfl rfl (by simp [World.setCell]) ?_
                rw [HX.out]
                exact ⟨tk_ret rfl rfl rfl rfl rfl rfl, (show SR b s (t.drop 2) cv (o || false) _ by rw [Bool.or_false]; exact (H0.out.setAtN A3.out).alloc _), (Fr.setCell w 1 _).alloc _⟩
              | false =>
                have N15 := Lib.hid (show ¬ (c = 45 ∧ cpAt t 0 = 45 ∧ cpAt t 1 = 62) from fun h => absurd (HB15.out.2 h) (by decide))
                have I0 := Lib.hid (fun w => specIdentifies (c : Int) x y w)
                obtain ⟨i0, hi0⟩ : ∃ v, identZ (c : Int) x y = v := ⟨_, rfl⟩
                rw [hi0] at I0
                have HI0 := Lib.hid hi0
                clear hi0
                cases i0 with
                | true =>
                  have NA := Lib.hid (namedL b s (c :: t) cv o _ H1.out)
                  have HX := Lib.hid (show RES = namedS (c :: t) by
                    rw [← HRES.out]; unfold nextS
                    rw [if_neg (by rw [HW.out]; decide), if_neg HQ.out, if_neg N9.out, if_neg (by rw [HXX.out, HYY.out, HCT.out]; decide), if_neg N15.out, if_pos (by rw [HXX.out, HYY.out]; exact HI0.out)])
                  obtain ⟨RN, hRN⟩ : ∃ v, namedS (c :: t) = v := ⟨_, rfl⟩
                  rw [hRN] at HX NA
                  rw [tkV_agg] at NA
                  clear hRN
                  go_wp2_with fail
                  refine (I0.out _).mono ?_
                  rintro e w' ⟨rfl, hww⟩
                  first | (obtain rfl : _ = w' := hww) | (obtain rfl : _ = w' := hww.symm)
                  go_wp2_with fail
                  refine (NA.out).mono ?_
                  rintro e w2 ⟨rfl, h2, f2⟩
                  have zb := Z0.out.fr f2 hR
                  obtain ⟨c0, c1, c2, c3, c4, c5⟩ := zb.c
                  obtain ⟨z0, z1, z2, z3, z4, z5⟩ := zb.z
                  have ZZ := Lib.hid zb
                  clear zb
                  go_wp2_with fail
                  refine tok_end (R := w.heap.size) rfl rfl rfl ZZ.out ?_
                  rw [HX.out]
                  exact ⟨tk_ret rfl rfl rfl rfl rfl rfl, h2.put6 (Ne.symm hR) _ _ _ _ _ _, (F0.out.trans f2).put6 (Nat.le_refl _) _ _ _ _ _ _⟩
                | false =>
                  go_wp2_with fail
                  refine (I0.out _).mono ?_
                  rintro e w' ⟨rfl, hww⟩
                  first | (obtain rfl : _ = w' := hww) | (obtain rfl : _ = w' := hww.symm)
                  go_upto_region 20 with fail
                  go_cut [88] (fun v wx => v = .bool (((c : Int) == 60) && (x == 33) && (y == 45) && (z == 45)) ∧ wx = w.alloc (.cells #[.int .i64 0, .int .i64 0, .int .i64 0, .int .i64 0, .bool false, .string ⟨#[]⟩] 29))
                  case first =>
                    cases t60 : ((c : Int) == 60)
                    · go_wp2_with fail
                      go_meet
                      exact ⟨by first | rw [t60]; rfl | rfl, rfl⟩
                    · cases tx : (x == 33)
                      · go_wp2_with fail
                        go_meet
                        exact ⟨by first | rw [t60, tx]; rfl | rfl, rfl⟩
                      · cases ty : (y == 45)
                        · go_wp2_with fail
                          go_meet
                          exact ⟨by first | rw [t60, tx, ty]; rfl | rfl, rfl⟩
                        · go_wp2_with fail
                          refine (P3.out).mono ?_
                          rintro e w' ⟨rfl, hww⟩
                          first | (obtain rfl : _ = w' := hww) | (obtain rfl : _ = w' := hww.symm)
                          go_wp2_with fail
                          go_meet
                          exact ⟨by first | rw [t60, tx, ty]; rfl | rfl, rfl⟩
                  case rest =>
                    obtain ⟨rfl, rfl⟩ := hcut
                    obtain ⟨B20, hB20⟩ : ∃ v, (((c : Int) == 60) && (x == 33) && (y == 45) && (z == 45)) = v := ⟨_, rfl⟩
                    rw [hB20]
                    have HB20 := Lib.hid (show B20 = true ↔ (c = 60 ∧ cpAt t 0 = 33 ∧ cpAt t 1 = 45 ∧ cpAt t 2 = 45) by
                      rw [← hB20, HXX.out, HYY.out, HZZ.out, Bool.and_eq_true, Bool.and_eq_true, Bool.and_eq_true, beq_iff_eq, beq_iff_eq, beq_iff_eq, beq_iff_eq]
                      constructor
                      · rintro ⟨⟨⟨h1, h2⟩, h3⟩, h4⟩; exact ⟨by omega, h2, h3, h4⟩
                      · rintro ⟨h1, h2, h3, h4⟩; exact ⟨⟨⟨by omega, h2⟩, h3⟩, h4⟩)
                    clear hB20
                    cases B20 with
                    | true =>
                      have hb := HB20.out.1 (by first | rfl | trivial)
                      have HX := Lib.hid (show RES = (⟨5, 0, false, []⟩, t.drop 3, false) by
                        rw [← HRES.out]; unfold nextS
                        rw [if_neg (by rw [HW.out]; decide), if_neg HQ.out, if_neg N9.out, if_neg (by rw [HXX.out, HYY.out, HCT.out]; decide), if_neg N15.out, if_neg (by rw [HXX.out, HYY.out, HI0.out]; decide), if_pos hb])
                      obtain ⟨k0, hA0, d1⟩ := H1.out.c1
                      have z1 := H1.out.fz 1
                      have hkz : k0 ≤ 4294967296 := Nat.le_trans hA0.le hA0.hz
                      have A4 := Lib.hid (show At s (k0 + 4) (t.drop 3) by
                        obtain ⟨h1, h2, h3, h4⟩ := hb
                        exact hA0.skip4 (by omega) (by omega) (by omega) (by omega))
                      clear hb hA0
                      go_wp2_with fail
                      refine tok_endR (R := w.heap.size) rfl rfl rfl (by simp [World.setCell]) ?_
                      rw [HX.out]
                      exact ⟨tk_ret rfl rfl rfl rfl rfl rfl, (show SR b s (t.drop 3) cv (o || false) _ by rw [Bool.or_false]; exact (H0.out.setAtN A4.out).alloc _), (Fr.setCell w 1 _).alloc _⟩
                    | false =>
                      have N20 := Lib.hid (show ¬ (c = 60 ∧ cpAt t 0 = 33 ∧ cpAt t 1 = 45 ∧ cpAt t 2 = 45) from fun h => absurd (HB20.out.2 h) (by decide))
                      have I3 := Lib.hid (fun w => specIdentifies x y z w)
                      obtain ⟨i3, hi3⟩ : ∃ v, identZ x y z = v := ⟨_, rfl⟩
                      rw [hi3] at I3
                      have HI3 := Lib.hid hi3
                      clear hi3
                      go_upto_region 23 with fail
                      go_cut [112] (fun v wx => v = .bool (((c : Int) == 64) && i3) ∧ wx = w.alloc (.cells #[.int .i64 0, .int .i64 0, .int .i64 0, .int .i64 0, .bool false, .string ⟨#[]⟩] 29))
                      case first =>
                        cases t64 : ((c : Int) == 64)
                        · go_wp2_with fail
                          go_meet
                          exact ⟨by first | rw [t64]; rfl | rfl, rfl⟩
                        · go_wp2_with fail
                          refine (P3.out).mono ?_
                          rintro e w' ⟨rfl, hww⟩
                          first | (obtain rfl : _ = w' := hww) | (obtain rfl : _ = w' := hww.symm)
                          go_wp2_with fail
                          refine (I3.out _).mono ?_
                          rintro e w' ⟨rfl, hww⟩
                          first | (obtain rfl : _ = w' := hww) | (obtain rfl : _ = w' := hww.symm)
                          go_wp2_with fail
                          go_meet
                          exact ⟨by first | rw [t64]; rfl | rfl, rfl⟩
                      case rest =>
                        obtain ⟨rfl, rfl⟩ := hcut
                        obtain ⟨B23, hB23⟩ : ∃ v, (((c : Int) == 64) && i3) = v := ⟨_, rfl⟩
                        rw [hB23]
                        have HB23 := Lib.hid (show B23 = true ↔ (c = 64 ∧ identZ (cpAt t 0) (cpAt t 1) (cpAt t 2) = true) by
                          rw [← hB23, HXX.out, HYY.out, HZZ.out, HI3.out, Bool.and_eq_true, beq_iff_eq]
                          constructor
                          · rintro ⟨h1, h2⟩; exact ⟨by omega, h2⟩
                          · rintro ⟨h1, h2⟩; exact ⟨by omega, h2⟩)
                        clear hB23
                        cases B23 with
                        | true =>
                          have hb := HB23.out.1 (by first | rfl | trivial)
                          have K := Lib.hid (take_cons b s c t cv o _ H1.out)
                          have HX := Lib.hid (show RES = (⟨1, 0, false, (nameS t).1⟩, (nameS t).2.1, (nameS t).2.2) by
                            rw [← HRES.out]; unfold nextS
                            rw [if_neg (by rw [HW.out]; decide), if_neg HQ.out, if_neg N9.out, if_neg (by rw [HXX.out, HYY.out, HCT.out]; decide), if_neg N15.out, if_neg (by rw [HXX.out, HYY.out, HI0.out]; decide), if_neg N20.out, if_pos hb])
                          clear hb
                          go_wp2_with fail
                          refine (K.out).mono ?_
                          rintro e w2 ⟨rfl, h2, f2⟩
                          go_wp2_with fail
                          refine (nameL b s t cv o _ h2).mono ?_
                          rintro e w3 ⟨rfl, h3, f3⟩
                          have F3 := Lib.hid ((F0.out.trans f2).trans f3)
                          have Z3 := Lib.hid ((Z0.out.fr f2 hR).fr f3 hR)
                          clear f2 f3
                          have zb := Z3.out
                          obtain ⟨c0, c1, c2, c3, c4, c5⟩ := zb.c
                          obtain ⟨z0, z1, z2, z3, z4, z5⟩ := zb.z
                          have ZZ := Lib.hid zb
                          clear zb
                          go_wp2_with fail
                          refine tok_end (R := w.heap.size) rfl rfl rfl ZZ.out ?_
                          rw [HX.out]
                          dsimp only
                          exact ⟨tk_ret rfl rfl rfl rfl rfl rfl, h3.put6 (Ne.symm hR) _ _ _ _ _ _, F3.out.put6 (Nat.le_refl _) _ _ _ _ _ _⟩
                        | false =>
                          have N23 := Lib.hid (show ¬ (c = 64 ∧ identZ (cpAt t 0) (cpAt t 1) (cpAt t 2) = true) from fun h => absurd (HB23.out.2 h) (by decide))
                          have SG := Lib.hid (signL b s c t cv o _ H1.out)
                          have HX := Lib.hid (show RES = (⟨signK c, 0, false, []⟩, t, false) by
                            rw [← HRES.out]; unfold nextS
                            rw [if_neg (by rw [HW.out]; decide), if_neg HQ.out, if_neg N9.out, if_neg (by rw [HXX.out, HYY.out, HCT.out]; decide), if_neg N15.out, if_neg (by rw [HXX.out, HYY.out, HI0.out]; decide), if_neg N20.out, if_neg N23.out])
                          obtain ⟨tk, htk⟩ : ∃ v, (⟨signK c, 0, false, []⟩ : Tk) = v := ⟨_, rfl⟩
                          rw [htk] at HX SG
                          rw [tkV_agg] at SG
                          clear htk
                          go_wp2_with fail
                          refine (SG.out).mono ?_
                          rintro e w2 ⟨rfl, h2, f2⟩
                          have zb := Z0.out.fr f2 hR
                          obtain ⟨c0, c1, c2, c3, c4, c5⟩ := zb.c
                          obtain ⟨z0, z1, z2, z3, z4, z5⟩ := zb.z
                          have ZZ := Lib.hid zb
                          clear zb
                          go_wp2_with fail
                          refine tok_end (R := w.heap.size) rfl rfl rfl ZZ.out ?_
                          rw [HX.out]
                          exact ⟨tk_ret rfl rfl rfl rfl rfl rfl, (show SR b s t cv (o || false) w2 by rw [Bool.or_false]; exact h2).put6 (Ne.symm hR) _ _ _ _ _ _, (F0.out.trans f2).put6 (Nat.le_refl _) _ _ _ _ _ _⟩
end Go.Proofs.YtmgkccnfhkcncaaDoor
