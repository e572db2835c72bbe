/-
  The reference's lexer: a text in quotes.
-/
import Derived.Test.YtmgkccnfhkcncaaDoorSpecTok
namespace Go.Proofs.YtmgkccnfhkcncaaDoor
open Go.RowKit

theorem SR.c3' {b : Nat} {s : ByteArray} {l : List Nat} {cv : Value} {o : Bool} {w : World} (h : SR b s l cv o w) : w.cell? ⟨b, 3, none⟩ = some (.bool o) ∧ w.frozen? ⟨b, 3, none⟩ = false := ⟨h.c3, h.fz 3⟩
theorem ZB.open' {R b : Nat} {w : World} (h : ZB R w) (hb : R ≠ b) (i : Nat) (v : Value) : ZB R (w.setCell ⟨b, i, none⟩ v) := h.fr (Fr.setCell w i v) hb
def quotTk (q : Nat) (t : List Nat) : Tk := ⟨if (quotS q t).1 = true then 36 else 2, 0, false, if (quotS q t).1 = true then (quotS q t).2.1 else []⟩
/-- The loop of quoted. -/
def QRel (b : Nat) (s : ByteArray) (q : Nat) (t : List Nat) (cv : Value) (o : Bool) (w0 : World) (ov : Value) (w : World) : Prop :=
  ∃ acc r oo, ov = .string (strOf acc) ∧ SR b s r cv oo w ∧ Fr b w0 w ∧ acc.length + r.length ≤ t.length ∧ ∀ ok x rest op, quotS q r = (ok, x, rest, op) → ∃ op', quotS q t = (ok, acc ++ x, rest, op') ∧ (o || op') = (oo || op)

set_option maxHeartbeats 8000000 in
set_option maxRecDepth 100000 in
theorem quotedL (b : Nat) (s : ByteArray) (q : Nat) (t : List Nat) (cv : Value) (o : Bool) (w : World) (h : SR b s (q :: t) cv o w) (hq : q = 34 ∨ q = 39) :
    Calls Tryd.prog 59 #[.pointer (some ⟨b, 0, none⟩)] w fun e w' => e = .returned (tkV (quotTk q t) 0 0) ∧ SR b s (quotS q t).2.2.1 cv (o || (quotS q t).2.2.2) w' ∧ Fr b w w' := by
  have hlt := h.lt
  have hll := h.len
  have P := Lib.hid (fun l o w h => peek0 b s l cv o w h)
  have P1 := Lib.hid (fun l o w h => peek1 b s l cv o w h)
  have K := Lib.hid (fun c t o w h => take_cons b s c t cv o w h)
  have K0 := Lib.hid (fun o w h => take_nil b s cv o w h)
  have E := Lib.hid (fun l o w h => escapeL b s l cv o w h)
  have NL := Lib.hid (fun l o w h => newlineL b s l cv o w h)
  have HQ := Lib.hid hq
  have q92 : q ≠ 92 := by omega
  clear hq
  simp only [List.length_cons] at hll
  go_enter Tryd.func59, Tryd.ntmps59
  go_wp2_with fail
  refine (K.out q t o _ (h.alloc _)).mono ?_
  rintro e w1 ⟨rfl, h1, f1⟩
  have START := Lib.hid (show QRel b s q t cv o w1 (.string ⟨#[]⟩) w1 from ⟨[], t, o, rfl, h1, Fr.refl b w1, by simp, fun ok x rest op h => ⟨op, h, rfl⟩⟩)
  have Z1 := Lib.hid ((ZB.new w).fr f1 (by omega))
  have F1 := Lib.hid f1.made
  have hR : w.heap.size ≠ b := by omega
  have hR2 := (ZB.lt Z1.out)
  clear h1 f1 h
  go_wp2_with fail
  go_loopw [4] (fun ov wr => QRel b s q t cv o w1 ov wr) (fun _ wr => leftOf b s wr)
  case atStart => exact START.out
  case round =>
    obtain ⟨acc, r, oo, rfl, hr, hf, hlen, hk⟩ := hrel
    clear START
    have hsz := strOf_size acc
    have hss : (strOf acc).size ≤ 17179869184 := by omega
    have HK := Lib.hid hk
    have HL := Lib.hid hlen
    have HF := Lib.hid (F1.out.trans hf)
    have ZR := Lib.hid (Z1.out.fr hf hR)
    clear hsz hk hlen
    cases r with
    | nil =>
      have Q := Lib.hid (P.out [] oo _ hr)
      rw [cpAt_nil] at Q
      have t0 : ((-1 : Int) == (q : Int)) = false := beq_eq_false_iff_ne.2 (by omega)
      have hx := HK.out true [] [] true (quotS_nil q)
      have HX := Lib.hid hx
      clear hx q92
      go_wp2_with fail
      refine (Q.out).mono ?_
      rintro e w' ⟨rfl, hww⟩
      first | (obtain rfl : _ = w' := hww) | (obtain rfl : _ = w' := hww.symm)
      obtain ⟨d3, y3⟩ := hr.c3'
      have zb := ZR.out.open' hR 3 (.bool true)
      obtain ⟨c0, c1, c2, c3, c4, c5⟩ := zb.c
      obtain ⟨z0, z1, z2, z3, z4, z5⟩ := zb.z
      have ZZ := Lib.hid zb
      clear zb
      go_wp2_with fail
      refine tok_end (R := w.heap.size) rfl rfl rfl ZZ.out ?_
      obtain ⟨op', hx, ho⟩ := HX.out
      unfold quotTk
      rw [hx]
      dsimp only
      rw [ho, if_pos rfl, if_pos rfl, List.append_nil, Bool.or_true]
      exact ⟨tk_ret rfl rfl rfl rfl rfl rfl, (hr.open' true).put6 (Ne.symm hR) _ _ _ _ _ _, (HF.out.trans (Fr.setCell _ _ _)).put6 (Nat.le_refl _) _ _ _ _ _ _⟩
    | cons c u =>
      have hc := hr.cp c (by simp)
      have Q := Lib.hid (P.out (c :: u) oo _ hr)
      rw [cpAt_zero_cons] at Q
      have Q1 := Lib.hid (P1.out (c :: u) oo _ hr)
      rw [cpAt_succ_cons] at Q1
      have NW := Lib.hid (fun w => specNewline (c : Int) w)
      rw [nl_nat] at NW
      have tm : ((c : Int) == -1) = false := beq_eq_false_iff_ne.2 (by omega)
      by_cases h1 : c = q
      · subst h1
        have HX := Lib.hid (HK.out true [] u false (quotS_end c u))
        have tq : ((c : Int) == (c : Int)) = true := beq_self_eq_true _
        clear q92
        go_wp2_with fail
        refine (Q.out).mono ?_
        rintro e w' ⟨rfl, hww⟩
        first | (obtain rfl : _ = w' := hww) | (obtain rfl : _ = w' := hww.symm)
        go_wp2_with fail
        refine (K.out c u oo _ hr).mono ?_
        rintro e w2 ⟨rfl, h2, f2⟩
        have zb := ZR.out.fr f2 hR
        obtain ⟨c0, c1, c2, c3, c4, c5⟩ := zb.c
        obtain ⟨z0, z1, z2, z3, z4, z5⟩ := zb.z
        have ZZ := Lib.hid zb
        clear zb
        go_wp2_with fail
        refine tok_end (R := w.heap.size) rfl rfl rfl ZZ.out ?_
        obtain ⟨op', hx, ho⟩ := HX.out
        unfold quotTk
        rw [hx]
        dsimp only
        rw [ho, if_pos rfl, if_pos rfl, List.append_nil, Bool.or_false]
        exact ⟨tk_ret rfl rfl rfl rfl rfl rfl, h2.put6 (Ne.symm hR) _ _ _ _ _ _, (HF.out.trans f2).put6 (Nat.le_refl _) _ _ _ _ _ _⟩
      · have tq : ((c : Int) == (q : Int)) = false := beq_eq_false_iff_ne.2 (by omega)
        cases h2 : isNl c with
        | true =>
          rw [h2] at NW
          have HX := Lib.hid (HK.out false [] (c :: u) false (quotS_nl q c u h1 h2))
          clear q92 h1 h2
          go_wp2_with fail
          refine (Q.out).mono ?_
          rintro e w' ⟨rfl, hww⟩
          first | (obtain rfl : _ = w' := hww) | (obtain rfl : _ = w' := hww.symm)
          go_wp2_with fail
          refine (NW.out _).mono ?_
          rintro e w' ⟨rfl, hww⟩
          first | (obtain rfl : _ = w' := hww) | (obtain rfl : _ = w' := hww.symm)
          have zb := ZR.out
          obtain ⟨c0, c1, c2, c3, c4, c5⟩ := zb.c
          obtain ⟨z0, z1, z2, z3, z4, z5⟩ := zb.z
          have ZZ := Lib.hid zb
          clear zb
          go_wp2_with fail
          refine tok_end (R := w.heap.size) rfl rfl rfl ZZ.out ?_
          obtain ⟨op', hx, ho⟩ := HX.out
          unfold quotTk
          rw [hx]
          dsimp only
          rw [ho, if_neg (by decide), if_neg (by decide), Bool.or_false]
          exact ⟨tk_ret rfl rfl rfl rfl rfl rfl, hr.put6 (Ne.symm hR) _ _ _ _ _ _, HF.out.put6 (Nat.le_refl _) _ _ _ _ _ _⟩
        | false =>
          rw [h2] at NW
          by_cases h3 : c = 92
          · subst h3
            cases u with
            | nil =>
              rw [cpAt_nil] at Q1
              have HX := Lib.hid (fun ok x rest op h => HK.out ok x rest op ((quotS_last q (by omega)).trans ((quotS_nil q).symm.trans h)))
              clear q92 h1 h2
              go_wp2_with fail
              refine (Q.out).mono ?_
              rintro e w' ⟨rfl, hww⟩
              first | (obtain rfl : _ = w' := hww) | (obtain rfl : _ = w' := hww.symm)
              go_wp2_with fail
              refine (NW.out _).mono ?_
              rintro e w' ⟨rfl, hww⟩
              first | (obtain rfl : _ = w' := hww) | (obtain rfl : _ = w' := hww.symm)
              go_wp2_with fail
              refine (Q1.out).mono ?_
              rintro e w' ⟨rfl, hww⟩
              first | (obtain rfl : _ = w' := hww) | (obtain rfl : _ = w' := hww.symm)
              go_wp2_with fail
              refine (K.out 92 [] oo _ hr).mono ?_
              rintro e w2 ⟨rfl, h2, f2⟩
              go_wp2_with fail
              go_roundw
              case rel => exact ⟨acc, [], oo, rfl, h2, hf.trans f2, by have := HL.out; simp at *; omega, HX.out⟩
              case measure => rw [h2.left, hr.left]; exact encs_lt 92 []
            | cons d v =>
              rw [cpAt_zero_cons] at Q1
              have td : ((d : Int) == -1) = false := beq_eq_false_iff_ne.2 (by omega)
              have NW1 := Lib.hid (fun w => specNewline (d : Int) w)
              rw [nl_nat] at NW1
              cases hd : isNl d with
              | true =>
                rw [hd] at NW1
                have hnl := nlS_len (d :: v)
                have hns := suf_enc (nlS_suf (d :: v))
                have HX := Lib.hid (fun ok x rest op h => HK.out ok x rest op ((quotS_cont q d v (by omega) hd).trans h))
                have HNL := Lib.hid hnl
                have HNS := Lib.hid hns
                clear q92 h1 h2 hd hnl hns
                go_wp2_with fail
                refine (Q.out).mono ?_
                rintro e w' ⟨rfl, hww⟩
                first | (obtain rfl : _ = w' := hww) | (obtain rfl : _ = w' := hww.symm)
                go_wp2_with fail
                refine (NW.out _).mono ?_
                rintro e w' ⟨rfl, hww⟩
                first | (obtain rfl : _ = w' := hww) | (obtain rfl : _ = w' := hww.symm)
                go_wp2_with fail
                refine (Q1.out).mono ?_
                rintro e w' ⟨rfl, hww⟩
                first | (obtain rfl : _ = w' := hww) | (obtain rfl : _ = w' := hww.symm)
                go_wp2_with fail
                refine (Q1.out).mono ?_
                rintro e w' ⟨rfl, hww⟩
                first | (obtain rfl : _ = w' := hww) | (obtain rfl : _ = w' := hww.symm)
                go_wp2_with fail
                refine (NW1.out _).mono ?_
                rintro e w' ⟨rfl, hww⟩
                first | (obtain rfl : _ = w' := hww) | (obtain rfl : _ = w' := hww.symm)
                go_wp2_with fail
                refine (K.out 92 (d :: v) oo _ hr).mono ?_
                rintro e w2 ⟨rfl, h2, f2⟩
                go_wp2_with fail
                refine (NL.out (d :: v) oo _ h2).mono ?_
                rintro e w3 ⟨rfl, h3, f3⟩
                go_wp2_with fail
                go_roundw
                case rel => exact ⟨acc, nlS (d :: v), oo, rfl, h3, (hf.trans f2).trans f3, by have := HL.out; have := HNL.out; simp at *; omega, HX.out⟩
                case measure => rw [h3.left, hr.left]; exact Nat.lt_of_le_of_lt HNS.out (encs_lt 92 (d :: v))
              | false =>
                rw [hd] at NW1
                have ecp := escS_cp (d :: v) (fun x hx => hr.cp x (by simp [hx]))
                have elen := escS_len (d :: v)
                have esu := suf_enc (escS_suf (d :: v))
                have QE := quotS_esc q d v (by omega) hd
                obtain ⟨x2, r2, o2, hes⟩ : ∃ x r o, escS (d :: v) = (x, r, o) := ⟨_, _, _, rfl⟩
                have E1 := Lib.hid (fun w h => E.out (d :: v) oo w h)
                rw [hes] at QE E1 ecp elen esu
                dsimp only at QE E1 ecp elen esu
                have HX := Lib.hid (show ∀ ok x rest op, quotS q r2 = (ok, x, rest, op) → ∃ op', quotS q t = (ok, (acc ++ [x2]) ++ x, rest, op') ∧ (o || op') = ((oo || o2) || op) from fun ok x rest op h => by
                  obtain ⟨op', h3, h4⟩ := HK.out ok (x2 :: x) rest (o2 || op) (by rw [QE, h])
                  exact ⟨op', by rw [h3]; simp, by rw [h4, Bool.or_assoc]⟩)
                have N := Lib.hid (fun w => encodedC x2 w ecp.1)
                have U := Lib.hid (strOf_append acc [x2])
                have hs1 : (strOf [x2]).size ≤ 4 := strOf_size [x2]
                have EL := Lib.hid elen
                have SU := Lib.hid esu
                clear q92 h1 h2 hd ecp elen esu QE hes
                go_wp2_with fail
                refine (Q.out).mono ?_
                rintro e w' ⟨rfl, hww⟩
                first | (obtain rfl : _ = w' := hww) | (obtain rfl : _ = w' := hww.symm)
                go_wp2_with fail
                refine (NW.out _).mono ?_
                rintro e w' ⟨rfl, hww⟩
                first | (obtain rfl : _ = w' := hww) | (obtain rfl : _ = w' := hww.symm)
                go_wp2_with fail
                refine (Q1.out).mono ?_
                rintro e w' ⟨rfl, hww⟩
                first | (obtain rfl : _ = w' := hww) | (obtain rfl : _ = w' := hww.symm)
                go_wp2_with fail
                refine (Q1.out).mono ?_
                rintro e w' ⟨rfl, hww⟩
                first | (obtain rfl : _ = w' := hww) | (obtain rfl : _ = w' := hww.symm)
                go_wp2_with fail
                refine (NW1.out _).mono ?_
                rintro e w' ⟨rfl, hww⟩
                first | (obtain rfl : _ = w' := hww) | (obtain rfl : _ = w' := hww.symm)
                go_wp2_with fail
                refine (K.out 92 (d :: v) oo _ hr).mono ?_
                rintro e w2 ⟨rfl, h2, f2⟩
                go_wp2_with fail
                refine (E1.out _ h2).mono ?_
                rintro e w3 ⟨rfl, h3, f3⟩
                go_wp2_with fail
                refine (N.out w3).mono ?_
                rintro e w4 ⟨rfl, hb⟩
                have h4 := h3.below hb
                have f4 := ((hf.trans f2).trans f3).trans (Fr.of hb)
                clear hb h2 f2 h3 f3
                go_wp2_with fail
                go_roundw
                case rel => exact ⟨acc ++ [x2], r2, oo || o2, by rw [← U.out], h4, f4, by have := HL.out; have := EL.out; simp at *; omega, HX.out⟩
                case measure => rw [h4.left, hr.left]; exact Nat.lt_of_le_of_lt SU.out (encs_lt 92 (d :: v))
          · have t92 : ((c : Int) == 92) = false := beq_eq_false_iff_ne.2 (by omega)
            have QE := quotS_plain q c u h1 h2 h3
            have HX := Lib.hid (show ∀ ok x rest op, quotS q u = (ok, x, rest, op) → ∃ op', quotS q t = (ok, (acc ++ [c]) ++ x, rest, op') ∧ (o || op') = (oo || op) from fun ok x rest op h => by
              obtain ⟨op', h3, h4⟩ := HK.out ok (c :: x) rest op (by rw [QE, h])
              exact ⟨op', by rw [h3]; simp, h4⟩)
            have N := Lib.hid (fun w => encodedC c w hc)
            have U := Lib.hid (strOf_append acc [c])
            have hs1 : (strOf [c]).size ≤ 4 := strOf_size [c]
            clear q92 h1 h2 h3 QE hc
            go_wp2_with fail
            refine (Q.out).mono ?_
            rintro e w' ⟨rfl, hww⟩
            first | (obtain rfl : _ = w' := hww) | (obtain rfl : _ = w' := hww.symm)
            go_wp2_with fail
            refine (NW.out _).mono ?_
            rintro e w' ⟨rfl, hww⟩
            first | (obtain rfl : _ = w' := hww) | (obtain rfl : _ = w' := hww.symm)
            go_wp2_with fail
            refine (K.out c u oo _ hr).mono ?_
            rintro e w2 ⟨rfl, h2, f2⟩
            go_wp2_with fail
            refine (N.out w2).mono ?_
            rintro e w4 ⟨rfl, hb⟩
            have h4 := h2.below hb
            have f4 := (hf.trans f2).trans (Fr.of hb)
            clear hb h2 f2
            go_wp2_with fail
            go_roundw
            case rel => exact ⟨acc ++ [c], u, oo, by rw [← U.out], h4, f4, by have := HL.out; simp at *; omega, HX.out⟩
            case measure => rw [h4.left, hr.left]; exact encs_lt c u
end Go.Proofs.YtmgkccnfhkcncaaDoor
