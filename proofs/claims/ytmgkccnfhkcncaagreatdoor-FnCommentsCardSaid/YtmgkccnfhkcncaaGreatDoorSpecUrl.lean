/-
  The reference's lexer: an address without quotes, and what is left of a bad one.
-/
import Derived.Test.YtmgkccnfhkcncaaGreatDoorSpB
namespace Go.Proofs.YtmgkccnfhkcncaaGreatDoor
open Go.RowKit

theorem tkV_agg (k : Tk) : tkV k 0 0 = .agg #[.int .i64 (k.kind : Int), .int .i64 0, .int .i64 0, .int .i64 (k.unit : Int), .bool k.id, .string (strOf k.text)] := rfl
theorem spS_suf' : ∀ l : List Nat, spS l <:+ l
  | [] => List.suffix_refl _
  | c :: t => by
    rw [spS_cons]
    by_cases h : isWs c = true
    · rw [if_pos h]; exact (spS_suf' t).trans (List.suffix_cons _ _)
    · rw [if_neg h]; exact List.suffix_refl _
def badV : Value := .agg #[.int .i64 3, .int .i64 0, .int .i64 0, .int .i64 0, .bool false, .string ⟨#[]⟩]
/-- The loop of badURL. -/
def BRel (b : Nat) (s : ByteArray) (l : List Nat) (cv : Value) (o : Bool) (w0 : World) (w : World) : Prop :=
  ∃ r oo, SR b s r cv oo w ∧ Fr b w0 w ∧ ∀ rest op, badS r = (rest, op) → ∃ op', badS l = (rest, op') ∧ (o || op') = (oo || op)

set_option maxHeartbeats 8000000 in
set_option maxRecDepth 100000 in
theorem badL (b : Nat) (s : ByteArray) (l : List Nat) (cv : Value) (o : Bool) (w : World) (h : SR b s l cv o w) :
    Calls Tryz.prog 87 #[.pointer (some ⟨b, 0, none⟩)] w fun e w' => e = .returned (.agg #[.int .i64 3, .int .i64 0, .int .i64 0, .int .i64 0, .bool false, .string ⟨#[]⟩]) ∧ SR b s (badS l).1 cv (o || (badS l).2) w' ∧ Fr b w w' := by
  have hlt := h.lt
  have P := Lib.hid (fun l o w h => peek0 b s l cv o w h)
  have K := Lib.hid (fun c t o w h => take_cons b s c t cv o w h)
  have K0 := Lib.hid (fun o w h => take_nil b s cv o w h)
  have E := Lib.hid (fun l o w h => escapeL b s l cv o w h)
  have hR : w.heap.size ≠ b := by omega
  have START := Lib.hid (show BRel b s l cv o (w.alloc (.cells #[.int .i64 0, .int .i64 0, .int .i64 0, .int .i64 0, .bool false, .string ⟨#[]⟩] 47)) (w.alloc (.cells #[.int .i64 0, .int .i64 0, .int .i64 0, .int .i64 0, .bool false, .string ⟨#[]⟩] 47)) from ⟨l, o, h.alloc _, Fr.refl b _, fun rest op h => ⟨op, h, rfl⟩⟩)
  have Z1 := Lib.hid (ZB.new w)
  clear h
  go_enter Tryz.func87, Tryz.ntmps87
  go_wp2_with fail
  go_loopw [] (fun wr => BRel b s l cv o (w.alloc (.cells #[.int .i64 0, .int .i64 0, .int .i64 0, .int .i64 0, .bool false, .string ⟨#[]⟩] 47)) wr) (fun wr => leftOf b s wr)
  case atStart => exact START.out
  case round =>
    obtain ⟨r, oo, hr, hf, hk⟩ := hrel
    clear START
    have HK := Lib.hid hk
    have HF := Lib.hid hf.made
    have ZR := Lib.hid (Z1.out.fr hf hR)
    clear hk
    cases r with
    | nil =>
      have HX := Lib.hid (HK.out [] true badS_nil)
      go_wp2_with fail
      refine (K0.out oo _ hr).mono ?_
      rintro e w2 ⟨rfl, h2, f2⟩
      obtain ⟨d3, y3⟩ := h2.c3'
      have ZS := Lib.hid (ZR.out.fr f2 hR)
      have zb := ZS.out.open' hR 3 (.bool true)
      obtain ⟨c0, c1, c2, c3, c4, c5⟩ := zb.c
      obtain ⟨z0, z1, z2, z3, z4, z5⟩ := zb.z
      have ZZ := Lib.hid zb
      clear zb
      go_wp2_with fail
      refine tok_end (R := w.heap.size) rfl rfl rfl ZZ.out ?_
      obtain ⟨op', hx, ho⟩ := HX.out
      rw [hx]
      dsimp only
      rw [ho, Bool.or_true]
      exact ⟨rfl, (h2.open' true).put6 (Ne.symm hR) _ _ _ _ _ _, ((HF.out.trans f2).trans (Fr.setCell _ _ _)).put6 (Nat.le_refl _) _ _ _ _ _ _⟩
    | cons c u =>
      have tm : ((c : Int) == -1) = false := beq_eq_false_iff_ne.2 (by omega)
      by_cases h1 : c = 41
      · subst h1
        have HX := Lib.hid (HK.out u false (badS_end u))
        go_wp2_with fail
        refine (K.out 41 u oo _ hr).mono ?_
        rintro e w2 ⟨rfl, h2, f2⟩
        have zb := ZR.out.fr f2 hR
        obtain ⟨c0, c1, c2, c3, c4, c5⟩ := zb.c
        obtain ⟨z0, z1, z2, z3, z4, z5⟩ := zb.z
        have ZZ := Lib.hid zb
        clear zb
        go_wp2_with fail
        refine tok_end (R := w.heap.size) rfl rfl rfl ZZ.out ?_
        obtain ⟨op', hx, ho⟩ := HX.out
        rw [hx]
        dsimp only
        rw [ho, Bool.or_false]
        exact ⟨rfl, h2.put6 (Ne.symm hR) _ _ _ _ _ _, (HF.out.trans f2).put6 (Nat.le_refl _) _ _ _ _ _ _⟩
      · have t41 : ((c : Int) == 41) = false := beq_eq_false_iff_ne.2 (by omega)
        have X := Lib.hid (fun w => specEscapes (c : Int) (cpAt u 0) w)
        rw [escZ_ok] at X
        have Q := Lib.hid (fun w h => P.out u oo w h)
        by_cases he : c = 92 ∧ escOk u = true
        · rw [decide_eq_true he] at X
          obtain ⟨rfl, het⟩ := he
          have esu := suf_enc (escS_suf u)
          have QE := badS_esc u het
          obtain ⟨x2, r2, o2, hes⟩ : ∃ x r o, escS u = (x, r, o) := ⟨_, _, _, rfl⟩
          have E1 := Lib.hid (fun w h => E.out u true w h)
          rw [hes] at QE E1 esu
          dsimp only at QE E1 esu
          have HX := Lib.hid (show ∀ rest op, badS r2 = (rest, op) → ∃ op', badS l = (rest, op') ∧ (o || op') = ((true || o2) || op) from fun rest op h => by
            obtain ⟨op', h3, h4⟩ := HK.out rest true (by rw [QE, h])
            exact ⟨op', h3, by rw [h4]; simp⟩)
          have SU := Lib.hid esu
          clear h1 het hes QE esu
          go_wp2_with fail
          refine (K.out 92 u oo _ hr).mono ?_
          rintro e w2 ⟨rfl, h2, f2⟩
          go_wp2_with fail
          refine (Q.out _ h2).mono ?_
          rintro e w' ⟨rfl, hww⟩
          first | (obtain rfl : _ = w' := hww) | (obtain rfl : _ = w' := hww.symm)
          go_wp2_with fail
          refine (X.out _).mono ?_
          rintro e w' ⟨rfl, hww⟩
          first | (obtain rfl : _ = w' := hww) | (obtain rfl : _ = w' := hww.symm)
          obtain ⟨d3, y3⟩ := h2.c3'
          go_wp2_with fail
          refine (E1.out _ (h2.open' true)).mono ?_
          rintro e w3 ⟨rfl, h3, f3⟩
          have f4 := ((hf.trans f2).trans (Fr.setCell _ 3 (.bool true))).trans f3
          clear f2 f3 h2 d3 y3
          go_wp2_with fail
          go_roundw
          case rel => exact ⟨r2, true || o2, h3, f4, HX.out⟩
          case measure => rw [h3.left, hr.left]; exact Nat.lt_of_le_of_lt SU.out (encs_lt 92 u)
        · rw [decide_eq_false he] at X
          have HX := Lib.hid (fun rest op h => HK.out rest op ((badS_other c u h1 he).trans h))
          clear h1 he
          go_wp2_with fail
          refine (K.out c u oo _ hr).mono ?_
          rintro e w2 ⟨rfl, h2, f2⟩
          go_wp2_with fail
          refine (Q.out _ h2).mono ?_
          rintro e w' ⟨rfl, hww⟩
          first | (obtain rfl : _ = w' := hww) | (obtain rfl : _ = w' := hww.symm)
          go_wp2_with fail
          refine (X.out _).mono ?_
          rintro e w' ⟨rfl, hww⟩
          first | (obtain rfl : _ = w' := hww) | (obtain rfl : _ = w' := hww.symm)
          have f4 := hf.trans f2
          clear f2
          go_wp2_with fail
          go_roundw
          case rel => exact ⟨u, oo, h2, f4, HX.out⟩
          case measure => rw [h2.left, hr.left]; exact encs_lt c u

theorem unp_nat (c : Nat) : unpB (c : Int) = decide (c ≤ 8 ∨ c = 11 ∨ (14 ≤ c ∧ c ≤ 31) ∨ c = 127) := by
  unfold unpB; rw [Bool.eq_iff_iff, decide_eq_true_iff, decide_eq_true_iff]; omega
theorem spoils_iff {c : Nat} {t : List Nat} : spoils c t = true ↔ (c = 34 ∨ c = 39 ∨ c = 40 ∨ (c ≤ 8 ∨ c = 11 ∨ (14 ≤ c ∧ c ≤ 31) ∨ c = 127) ∨ (c = 92 ∧ escOk t = false)) := decide_eq_true_iff
def urlTk (l : List Nat) : Tk := ⟨if (urlS l).1 = true then 37 else 3, 0, false, if (urlS l).1 = true then (urlS l).2.1 else []⟩
/-- The loop of url. -/
def URel (b : Nat) (s : ByteArray) (t : List Nat) (cv : Value) (o : Bool) (w0 : World) (ov : Value) (w : World) : Prop :=
  ∃ acc r oo, ov = .string (strOf acc) ∧ SR b s r cv oo w ∧ Fr b w0 w ∧ acc.length + r.length ≤ t.length ∧ ∀ ok x rest op, urlS r = (ok, x, rest, op) → ∃ op', urlS t = (ok, if ok = true then acc ++ x else (urlS t).2.1, rest, op') ∧ (o || op') = (oo || op)

set_option maxHeartbeats 8000000 in
set_option maxRecDepth 100000 in
theorem urlL (b : Nat) (s : ByteArray) (t : List Nat) (cv : Value) (o : Bool) (w : World) (h : SR b s t cv o w) :
    Calls Tryz.prog 70 #[.pointer (some ⟨b, 0, none⟩)] w fun e w' => e = .returned (tkV (urlTk t) 0 0) ∧ SR b s (urlS t).2.2.1 cv (o || (urlS t).2.2.2) w' ∧ Fr b w w' := by
  have hlt := h.lt
  have hll := h.len
  have P := Lib.hid (fun l o w h => peek0 b s l cv o w h)
  have P1 := Lib.hid (fun l o w h => peek1 b s l cv o w h)
  have K := Lib.hid (fun c t o w h => take_cons b s c t cv o w h)
  have E := Lib.hid (fun l o w h => escapeL b s l cv o w h)
  have SP := Lib.hid (fun l o w h => spacesL b s l cv o w h)
  have BD := Lib.hid (fun l o w h => badL b s l cv o w h)
  have hR : w.heap.size ≠ b := by omega
  have START := Lib.hid (show URel b s t cv o (w.alloc (.cells #[.int .i64 0, .int .i64 0, .int .i64 0, .int .i64 0, .bool false, .string ⟨#[]⟩] 47)) (.string ⟨#[]⟩) (w.alloc (.cells #[.int .i64 0, .int .i64 0, .int .i64 0, .int .i64 0, .bool false, .string ⟨#[]⟩] 47)) from ⟨[], t, o, rfl, h.alloc _, Fr.refl b _, by simp, fun ok x rest op h => ⟨op, by rw [h]; cases ok <;> rfl, rfl⟩⟩)
  have Z1 := Lib.hid (ZB.new w)
  clear h
  go_enter Tryz.func70, Tryz.ntmps70
  go_wp2_with fail
  go_loopw [3] (fun ov wr => URel b s t cv o (w.alloc (.cells #[.int .i64 0, .int .i64 0, .int .i64 0, .int .i64 0, .bool false, .string ⟨#[]⟩] 47)) ov wr) (fun _ wr => leftOf b s wr)
  case atStart => exact START.out
  case round =>
    obtain ⟨acc, r, oo, rfl, hr, hf, hlen, hk⟩ := hrel
    clear START
    have hsz := strOf_size acc
    have hss : (strOf acc).size ≤ 17179869184 := by omega
    have HK := Lib.hid hk
    have HL := Lib.hid hlen
    have HF := Lib.hid hf.made
    have ZR := Lib.hid (Z1.out.fr hf hR)
    clear hsz hk hlen
    cases r with
    | nil =>
      have Q := Lib.hid (P.out [] oo _ hr)
      rw [cpAt_nil] at Q
      have HX := Lib.hid (HK.out true [] [] true urlS_nil)
      go_wp2_with fail
      refine (Q.out).mono ?_
      rintro e w' ⟨rfl, hww⟩
      first | (obtain rfl : _ = w' := hww) | (obtain rfl : _ = w' := hww.symm)
      obtain ⟨d3, y3⟩ := hr.c3'
      have zb := ZR.out.open' hR 3 (.bool true)
      obtain ⟨c0, c1, c2, c3, c4, c5⟩ := zb.c
      obtain ⟨z0, z1, z2, z3, z4, z5⟩ := zb.z
      have ZZ := Lib.hid zb
      clear zb
      go_wp2_with fail
      refine tok_end (R := w.heap.size) rfl rfl rfl ZZ.out ?_
      obtain ⟨op', hx, ho⟩ := HX.out
      first | rw [if_pos rfl] at hx | rw [if_pos trivial] at hx
      unfold urlTk
      rw [hx]
      dsimp only
      rw [ho, if_pos rfl, if_pos rfl, List.append_nil, Bool.or_true]
      exact ⟨tk_ret rfl rfl rfl rfl rfl rfl, (hr.open' true).put6 (Ne.symm hR) _ _ _ _ _ _, (HF.out.trans (Fr.setCell _ _ _)).put6 (Nat.le_refl _) _ _ _ _ _ _⟩
    | cons c u =>
      have hc := hr.cp c (by simp)
      have Q := Lib.hid (P.out (c :: u) oo _ hr)
      rw [cpAt_zero_cons] at Q
      have Q1 := Lib.hid (P1.out (c :: u) oo _ hr)
      rw [cpAt_succ_cons] at Q1
      have WS := Lib.hid (fun w => specSpace (c : Int) w)
      rw [sp_nat] at WS
      have UN := Lib.hid (fun w => specUnprintable (c : Int) w)
      have X := Lib.hid (fun w => specEscapes (c : Int) (cpAt u 0) w)
      rw [escZ_ok] at X
      have tm : ((c : Int) == -1) = false := beq_eq_false_iff_ne.2 (by omega)
      by_cases h1 : c = 41
      · subst h1
        have HX := Lib.hid (HK.out true [] u false (urlS_end u))
        go_wp2_with fail
        refine (Q.out).mono ?_
        rintro e w' ⟨rfl, hww⟩
        first | (obtain rfl : _ = w' := hww) | (obtain rfl : _ = w' := hww.symm)
        go_wp2_with fail
        refine (K.out 41 u oo _ hr).mono ?_
        rintro e w2 ⟨rfl, h2, f2⟩
        have zb := ZR.out.fr f2 hR
        obtain ⟨c0, c1, c2, c3, c4, c5⟩ := zb.c
        obtain ⟨z0, z1, z2, z3, z4, z5⟩ := zb.z
        have ZZ := Lib.hid zb
        clear zb
        go_wp2_with fail
        refine tok_end (R := w.heap.size) rfl rfl rfl ZZ.out ?_
        obtain ⟨op', hx, ho⟩ := HX.out
        first | rw [if_pos rfl] at hx | rw [if_pos trivial] at hx
        unfold urlTk
        rw [hx]
        dsimp only
        rw [ho, if_pos rfl, if_pos rfl, List.append_nil, Bool.or_false]
        exact ⟨tk_ret rfl rfl rfl rfl rfl rfl, h2.put6 (Ne.symm hR) _ _ _ _ _ _, (HF.out.trans f2).put6 (Nat.le_refl _) _ _ _ _ _ _⟩
      · have t41 : ((c : Int) == 41) = false := beq_eq_false_iff_ne.2 (by omega)
        cases h2 : isWs c with
        | true =>
          rw [h2] at WS
          have SP1 := Lib.hid (SP.out (c :: u) oo _ hr)
          rw [spS_cons, if_pos h2] at SP1
          have hsl := suf_enc (spS_suf' u)
          have hsl2 := (spS_suf' u).length_le
          cases hsp : spS u with
          | nil =>
            rw [hsp] at SP1
            have HX := Lib.hid (fun ok x rest op h => HK.out ok x rest op ((urlS_ws_nil c u h2 hsp).trans (urlS_nil.symm.trans h)))
            clear h1 h2 hsl hsl2 hsp hc
            go_wp2_with fail
            refine (Q.out).mono ?_
            rintro e w' ⟨rfl, hww⟩
            first | (obtain rfl : _ = w' := hww) | (obtain rfl : _ = w' := hww.symm)
            go_wp2_with fail
            refine (WS.out _).mono ?_
            rintro e w' ⟨rfl, hww⟩
            first | (obtain rfl : _ = w' := hww) | (obtain rfl : _ = w' := hww.symm)
            go_wp2_with fail
            refine (SP1.out).mono ?_
            rintro e w2 ⟨rfl, h2, f2⟩
            have Q2 := Lib.hid (P.out [] oo _ h2)
            rw [cpAt_nil] at Q2
            go_wp2_with fail
            refine (Q2.out).mono ?_
            rintro e w' ⟨rfl, hww⟩
            first | (obtain rfl : _ = w' := hww) | (obtain rfl : _ = w' := hww.symm)
            have f4 := hf.trans f2
            clear f2
            go_wp2_with fail
            go_roundw
            case rel => exact ⟨acc, [], oo, rfl, h2, f4, by have := HL.out; simp at *; omega, HX.out⟩
            case measure => rw [h2.left, hr.left]; exact Nat.lt_of_le_of_lt (Nat.zero_le _) (encs_lt c u)
          | cons d v =>
            rw [hsp] at SP1 hsl hsl2
            have HSL := Lib.hid hsl
            have HSL2 := Lib.hid hsl2
            have tdm : ((d : Int) == -1) = false := beq_eq_false_iff_ne.2 (by omega)
            have tdm' : ((d : Int) != -1) = true := by rw [bne_iff_ne]; omega
            by_cases hd : d = 41
            · subst hd
              have HX := Lib.hid (fun ok x rest op h => HK.out ok x rest op ((urlS_ws_end c u v h2 hsp).trans ((urlS_end v).symm.trans h)))
              clear h1 h2 hsl hsl2 hsp hc
              go_wp2_with fail
              refine (Q.out).mono ?_
              rintro e w' ⟨rfl, hww⟩
              first | (obtain rfl : _ = w' := hww) | (obtain rfl : _ = w' := hww.symm)
              go_wp2_with fail
              refine (WS.out _).mono ?_
              rintro e w' ⟨rfl, hww⟩
              first | (obtain rfl : _ = w' := hww) | (obtain rfl : _ = w' := hww.symm)
              go_wp2_with fail
              refine (SP1.out).mono ?_
              rintro e w2 ⟨rfl, h2, f2⟩
              have Q2 := Lib.hid (P.out (41 :: v) oo _ h2)
              rw [cpAt_zero_cons] at Q2
              go_wp2_with fail
              refine (Q2.out).mono ?_
              rintro e w' ⟨rfl, hww⟩
              first | (obtain rfl : _ = w' := hww) | (obtain rfl : _ = w' := hww.symm)
              have f4 := hf.trans f2
              clear f2
              go_wp2_with fail
              go_roundw
              case rel => exact ⟨acc, 41 :: v, oo, rfl, h2, f4, by have := HL.out; have := HSL2.out; simp at *; omega, HX.out⟩
              case measure => rw [h2.left, hr.left]; exact Nat.lt_of_le_of_lt HSL.out (encs_lt c u)
            · have td41 : ((d : Int) != 41) = true := by rw [bne_iff_ne]; omega
              have HX := Lib.hid (HK.out _ _ _ _ (urlS_ws_bad c u d v h2 hsp hd))
              clear h1 h2 hsl hsl2 hsp hc hd
              go_wp2_with fail
              refine (Q.out).mono ?_
              rintro e w' ⟨rfl, hww⟩
              first | (obtain rfl : _ = w' := hww) | (obtain rfl : _ = w' := hww.symm)
              go_wp2_with fail
              refine (WS.out _).mono ?_
              rintro e w' ⟨rfl, hww⟩
              first | (obtain rfl : _ = w' := hww) | (obtain rfl : _ = w' := hww.symm)
              go_wp2_with fail
              refine (SP1.out).mono ?_
              rintro e w2 ⟨rfl, h2, f2⟩
              have Q2 := Lib.hid (P.out (d :: v) oo _ h2)
              rw [cpAt_zero_cons] at Q2
              go_wp2_with fail
              refine (Q2.out).mono ?_
              rintro e w' ⟨rfl, hww⟩
              first | (obtain rfl : _ = w' := hww) | (obtain rfl : _ = w' := hww.symm)
              go_wp2_with fail
              refine (BD.out (d :: v) oo _ h2).mono ?_
              rintro e w3 ⟨rfl, h3, f3⟩
              have zb := (ZR.out.fr f2 hR).fr f3 hR
              obtain ⟨c0, c1, c2, c3, c4, c5⟩ := zb.c
              obtain ⟨z0, z1, z2, z3, z4, z5⟩ := zb.z
              have ZZ := Lib.hid zb
              clear zb
              go_wp2_with fail
              refine tok_end (R := w.heap.size) rfl rfl rfl ZZ.out ?_
              obtain ⟨op', hx, ho⟩ := HX.out
              first | rw [if_neg (by decide)] at hx | rw [if_neg not_false] at hx
              unfold urlTk
              rw [hx]
              dsimp only
              rw [ho, if_neg (by decide), if_neg (by decide)]
              exact ⟨tk_ret rfl rfl rfl rfl rfl rfl, h3.put6 (Ne.symm hR) _ _ _ _ _ _, ((HF.out.trans f2).trans f3).put6 (Nat.le_refl _) _ _ _ _ _ _⟩
        | false =>
          rw [h2] at WS
          cases hs : spoils c u with
          | true =>
            have HX := Lib.hid (HK.out _ _ _ _ (urlS_spoils c u h1 h2 hs))
            have hs' := spoils_iff.1 hs
            clear h1 h2 hs hc
            by_cases c34 : c = 34
            · subst c34
              clear hs'
              go_wp2_with fail
              refine (Q.out).mono ?_
              rintro e w' ⟨rfl, hww⟩
              first | (obtain rfl : _ = w' := hww) | (obtain rfl : _ = w' := hww.symm)
              go_wp2_with fail
              refine (WS.out _).mono ?_
              rintro e w' ⟨rfl, hww⟩
              first | (obtain rfl : _ = w' := hww) | (obtain rfl : _ = w' := hww.symm)
              go_wp2_with fail
              refine (BD.out (_ :: u) oo _ hr).mono ?_
              rintro e w3 ⟨rfl, h3, f3⟩
              have zb := ZR.out.fr f3 hR
              obtain ⟨c0, c1, c2, c3, c4, c5⟩ := zb.c
              obtain ⟨z0, z1, z2, z3, z4, z5⟩ := zb.z
              have ZZ := Lib.hid zb
              clear zb
              go_wp2_with fail
              refine tok_end (R := w.heap.size) rfl rfl rfl ZZ.out ?_
              obtain ⟨op', hx, ho⟩ := HX.out
              first | rw [if_neg (by decide)] at hx | rw [if_neg not_false] at hx
              unfold urlTk
              rw [hx]
              dsimp only
              rw [ho, if_neg (by decide), if_neg (by decide)]
              exact ⟨tk_ret rfl rfl rfl rfl rfl rfl, h3.put6 (Ne.symm hR) _ _ _ _ _ _, (HF.out.trans f3).put6 (Nat.le_refl _) _ _ _ _ _ _⟩
            · have t34 : ((c : Int) == 34) = false := beq_eq_false_iff_ne.2 (by omega)
              by_cases c39 : c = 39
              · subst c39
                clear hs' c34
                go_wp2_with fail
                refine (Q.out).mono ?_
                rintro e w' ⟨rfl, hww⟩
                first | (obtain rfl : _ = w' := hww) | (obtain rfl : _ = w' := hww.symm)
                go_wp2_with fail
                refine (WS.out _).mono ?_
                rintro e w' ⟨rfl, hww⟩
                first | (obtain rfl : _ = w' := hww) | (obtain rfl : _ = w' := hww.symm)
                go_wp2_with fail
                refine (BD.out (_ :: u) oo _ hr).mono ?_
                rintro e w3 ⟨rfl, h3, f3⟩
                have zb := ZR.out.fr f3 hR
                obtain ⟨c0, c1, c2, c3, c4, c5⟩ := zb.c
                obtain ⟨z0, z1, z2, z3, z4, z5⟩ := zb.z
                have ZZ := Lib.hid zb
                clear zb
                go_wp2_with fail
                refine tok_end (R := w.heap.size) rfl rfl rfl ZZ.out ?_
                obtain ⟨op', hx, ho⟩ := HX.out
                first | rw [if_neg (by decide)] at hx | rw [if_neg not_false] at hx
                unfold urlTk
                rw [hx]
                dsimp only
                rw [ho, if_neg (by decide), if_neg (by decide)]
                exact ⟨tk_ret rfl rfl rfl rfl rfl rfl, h3.put6 (Ne.symm hR) _ _ _ _ _ _, (HF.out.trans f3).put6 (Nat.le_refl _) _ _ _ _ _ _⟩
              · have t39 : ((c : Int) == 39) = false := beq_eq_false_iff_ne.2 (by omega)
                by_cases c40 : c = 40
                · subst c40
                  clear hs' c34 c39
                  go_wp2_with fail
                  refine (Q.out).mono ?_
                  rintro e w' ⟨rfl, hww⟩
                  first | (obtain rfl : _ = w' := hww) | (obtain rfl : _ = w' := hww.symm)
                  go_wp2_with fail
                  refine (WS.out _).mono ?_
                  rintro e w' ⟨rfl, hww⟩
                  first | (obtain rfl : _ = w' := hww) | (obtain rfl : _ = w' := hww.symm)
                  go_wp2_with fail
                  refine (BD.out (_ :: u) oo _ hr).mono ?_
                  rintro e w3 ⟨rfl, h3, f3⟩
                  have zb := ZR.out.fr f3 hR
                  obtain ⟨c0, c1, c2, c3, c4, c5⟩ := zb.c
                  obtain ⟨z0, z1, z2, z3, z4, z5⟩ := zb.z
                  have ZZ := Lib.hid zb
                  clear zb
                  go_wp2_with fail
                  refine tok_end (R := w.heap.size) rfl rfl rfl ZZ.out ?_
                  obtain ⟨op', hx, ho⟩ := HX.out
                  first | rw [if_neg (by decide)] at hx | rw [if_neg not_false] at hx
                  unfold urlTk
                  rw [hx]
                  dsimp only
                  rw [ho, if_neg (by decide), if_neg (by decide)]
                  exact ⟨tk_ret rfl rfl rfl rfl rfl rfl, h3.put6 (Ne.symm hR) _ _ _ _ _ _, (HF.out.trans f3).put6 (Nat.le_refl _) _ _ _ _ _ _⟩
                · have t40 : ((c : Int) == 40) = false := beq_eq_false_iff_ne.2 (by omega)
                  cases hu : unpB (c : Int) with
                  | true =>
                    rw [hu] at UN
                    clear hs' c34 c39 c40 hu
                    go_wp2_with fail
                    refine (Q.out).mono ?_
                    rintro e w' ⟨rfl, hww⟩
                    first | (obtain rfl : _ = w' := hww) | (obtain rfl : _ = w' := hww.symm)
                    go_wp2_with fail
                    refine (WS.out _).mono ?_
                    rintro e w' ⟨rfl, hww⟩
                    first | (obtain rfl : _ = w' := hww) | (obtain rfl : _ = w' := hww.symm)
                    go_wp2_with fail
                    refine (UN.out _).mono ?_
                    rintro e w' ⟨rfl, hww⟩
                    first | (obtain rfl : _ = w' := hww) | (obtain rfl : _ = w' := hww.symm)
                    go_wp2_with fail
                    refine (BD.out (_ :: u) oo _ hr).mono ?_
                    rintro e w3 ⟨rfl, h3, f3⟩
                    have zb := ZR.out.fr f3 hR
                    obtain ⟨c0, c1, c2, c3, c4, c5⟩ := zb.c
                    obtain ⟨z0, z1, z2, z3, z4, z5⟩ := zb.z
                    have ZZ := Lib.hid zb
                    clear zb
                    go_wp2_with fail
                    refine tok_end (R := w.heap.size) rfl rfl rfl ZZ.out ?_
                    obtain ⟨op', hx, ho⟩ := HX.out
                    first | rw [if_neg (by decide)] at hx | rw [if_neg not_false] at hx
                    unfold urlTk
                    rw [hx]
                    dsimp only
                    rw [ho, if_neg (by decide), if_neg (by decide)]
                    exact ⟨tk_ret rfl rfl rfl rfl rfl rfl, h3.put6 (Ne.symm hR) _ _ _ _ _ _, (HF.out.trans f3).put6 (Nat.le_refl _) _ _ _ _ _ _⟩
                  | false =>
                    rw [hu] at UN
                    obtain ⟨rfl, he⟩ : c = 92 ∧ escOk u = false := by
                      rw [unp_nat] at hu
                      have hu := of_decide_eq_false hu
                      rcases hs' with h | h | h | h | h
                      · exact absurd h c34
                      · exact absurd h c39
                      · exact absurd h c40
                      · exact absurd h hu
                      · exact h
                    rw [decide_eq_false (show ¬ ((92 : Nat) = 92 ∧ escOk u = true) by rw [he]; simp)] at X
                    clear hs' c34 c39 c40 hu he
                    go_wp2_with fail
                    refine (Q.out).mono ?_
                    rintro e w' ⟨rfl, hww⟩
                    first | (obtain rfl : _ = w' := hww) | (obtain rfl : _ = w' := hww.symm)
                    go_wp2_with fail
                    refine (WS.out _).mono ?_
                    rintro e w' ⟨rfl, hww⟩
                    first | (obtain rfl : _ = w' := hww) | (obtain rfl : _ = w' := hww.symm)
                    go_wp2_with fail
                    refine (UN.out _).mono ?_
                    rintro e w' ⟨rfl, hww⟩
                    first | (obtain rfl : _ = w' := hww) | (obtain rfl : _ = w' := hww.symm)
                    go_wp2_with fail
                    refine (Q1.out).mono ?_
                    rintro e w' ⟨rfl, hww⟩
                    first | (obtain rfl : _ = w' := hww) | (obtain rfl : _ = w' := hww.symm)
                    go_wp2_with fail
                    refine (X.out _).mono ?_
                    rintro e w' ⟨rfl, hww⟩
                    first | (obtain rfl : _ = w' := hww) | (obtain rfl : _ = w' := hww.symm)
                    go_wp2_with fail
                    refine (BD.out (_ :: u) oo _ hr).mono ?_
                    rintro e w3 ⟨rfl, h3, f3⟩
                    have zb := ZR.out.fr f3 hR
                    obtain ⟨c0, c1, c2, c3, c4, c5⟩ := zb.c
                    obtain ⟨z0, z1, z2, z3, z4, z5⟩ := zb.z
                    have ZZ := Lib.hid zb
                    clear zb
                    go_wp2_with fail
                    refine tok_end (R := w.heap.size) rfl rfl rfl ZZ.out ?_
                    obtain ⟨op', hx, ho⟩ := HX.out
                    first | rw [if_neg (by decide)] at hx | rw [if_neg not_false] at hx
                    unfold urlTk
                    rw [hx]
                    dsimp only
                    rw [ho, if_neg (by decide), if_neg (by decide)]
                    exact ⟨tk_ret rfl rfl rfl rfl rfl rfl, h3.put6 (Ne.symm hR) _ _ _ _ _ _, (HF.out.trans f3).put6 (Nat.le_refl _) _ _ _ _ _ _⟩
          | false =>
            have hs' : ¬ _ := fun h => absurd (spoils_iff.2 h) (by rw [hs]; decide)
            have t34 : ((c : Int) == 34) = false := beq_eq_false_iff_ne.2 (fun h => hs' (Or.inl (by omega)))
            have t39 : ((c : Int) == 39) = false := beq_eq_false_iff_ne.2 (fun h => hs' (Or.inr (Or.inl (by omega))))
            have t40 : ((c : Int) == 40) = false := beq_eq_false_iff_ne.2 (fun h => hs' (Or.inr (Or.inr (Or.inl (by omega)))))
            have hu : unpB (c : Int) = false := by
              rw [unp_nat]; exact decide_eq_false (fun h => hs' (Or.inr (Or.inr (Or.inr (Or.inl h)))))
            rw [hu] at UN
            by_cases h3 : c = 92
            · subst h3
              have het : escOk u = true := by
                cases he : escOk u with
                | true => rfl
                | false => exact absurd (Or.inr (Or.inr (Or.inr (Or.inr ⟨rfl, he⟩)))) hs'
              rw [decide_eq_true (show (92 : Nat) = 92 ∧ escOk u = true from ⟨rfl, het⟩)] at X
              have ecp := escS_cp u (fun x hx => hr.cp x (by simp [hx]))
              have elen := escS_len u
              have esu := suf_enc (escS_suf u)
              have QE := urlS_esc u het
              obtain ⟨x2, r2, o2, hes⟩ : ∃ x r o, escS u = (x, r, o) := ⟨_, _, _, rfl⟩
              have E1 := Lib.hid (fun w h => E.out u oo w h)
              rw [hes] at QE E1 ecp elen esu
              dsimp only at QE E1 ecp elen esu
              have HX := Lib.hid (show ∀ ok x rest op, urlS r2 = (ok, x, rest, op) → ∃ op', urlS t = (ok, if ok = true then (acc ++ [x2]) ++ x else (urlS t).2.1, rest, op') ∧ (o || op') = ((oo || o2) || op) from fun ok x rest op h => by
                obtain ⟨op', h3, h4⟩ := HK.out ok (x2 :: x) rest (o2 || op) (by rw [QE, h])
                exact ⟨op', by rw [show (acc ++ [x2]) ++ x = acc ++ x2 :: x by simp]; exact h3, by rw [h4, Bool.or_assoc]⟩)
              have N := Lib.hid (fun w => encodedC x2 w ecp.1)
              have U := Lib.hid (strOf_append acc [x2])
              have hs1 : (strOf [x2]).size ≤ 4 := strOf_size [x2]
              have EL := Lib.hid elen
              have SU := Lib.hid esu
              clear h1 h2 hs hs' hu het ecp elen esu QE hes hc
              go_wp2_with fail
              refine (Q.out).mono ?_
              rintro e w' ⟨rfl, hww⟩
              first | (obtain rfl : _ = w' := hww) | (obtain rfl : _ = w' := hww.symm)
              go_wp2_with fail
              refine (WS.out _).mono ?_
              rintro e w' ⟨rfl, hww⟩
              first | (obtain rfl : _ = w' := hww) | (obtain rfl : _ = w' := hww.symm)
              go_wp2_with fail
              refine (UN.out _).mono ?_
              rintro e w' ⟨rfl, hww⟩
              first | (obtain rfl : _ = w' := hww) | (obtain rfl : _ = w' := hww.symm)
              go_wp2_with fail
              refine (Q1.out).mono ?_
              rintro e w' ⟨rfl, hww⟩
              first | (obtain rfl : _ = w' := hww) | (obtain rfl : _ = w' := hww.symm)
              go_wp2_with fail
              refine (X.out _).mono ?_
              rintro e w' ⟨rfl, hww⟩
              first | (obtain rfl : _ = w' := hww) | (obtain rfl : _ = w' := hww.symm)
              go_wp2_with fail
              refine (K.out 92 u oo _ hr).mono ?_
              rintro e w2 ⟨rfl, h2, f2⟩
              go_wp2_with fail
              refine (E1.out _ h2).mono ?_
              rintro e w3 ⟨rfl, h3, f3⟩
              go_wp2_with fail
              refine (N.out w3).mono ?_
              rintro e w4 ⟨rfl, hb⟩
              have h4 := h3.below hb
              have f4 := ((hf.trans f2).trans f3).trans (Fr.of hb)
              clear hb h2 f2 h3 f3
              go_wp2_with fail
              go_roundw
              case rel => exact ⟨acc ++ [x2], r2, oo || o2, by rw [← U.out], h4, f4, by have := HL.out; have := EL.out; simp at *; omega, HX.out⟩
              case measure => rw [h4.left, hr.left]; exact Nat.lt_of_le_of_lt SU.out (encs_lt 92 u)
            · have t92 : ((c : Int) == 92) = false := beq_eq_false_iff_ne.2 (by omega)
              have QE := urlS_plain c u h1 h2 hs h3
              have HX := Lib.hid (show ∀ ok x rest op, urlS u = (ok, x, rest, op) → ∃ op', urlS t = (ok, if ok = true then (acc ++ [c]) ++ x else (urlS t).2.1, rest, op') ∧ (o || op') = (oo || op) from fun ok x rest op h => by
                obtain ⟨op', h3, h4⟩ := HK.out ok (c :: x) rest op (by rw [QE, h])
                exact ⟨op', by rw [show (acc ++ [c]) ++ x = acc ++ c :: x by simp]; exact h3, h4⟩)
              have N := Lib.hid (fun w => encodedC c w hc)
              have U := Lib.hid (strOf_append acc [c])
              have hs1 : (strOf [c]).size ≤ 4 := strOf_size [c]
              clear h1 h2 hs hs' hu h3 QE hc
              go_wp2_with fail
              refine (Q.out).mono ?_
              rintro e w' ⟨rfl, hww⟩
              first | (obtain rfl : _ = w' := hww) | (obtain rfl : _ = w' := hww.symm)
              go_wp2_with fail
              refine (WS.out _).mono ?_
              rintro e w' ⟨rfl, hww⟩
              first | (obtain rfl : _ = w' := hww) | (obtain rfl : _ = w' := hww.symm)
              go_wp2_with fail
              refine (UN.out _).mono ?_
              rintro e w' ⟨rfl, hww⟩
              first | (obtain rfl : _ = w' := hww) | (obtain rfl : _ = w' := hww.symm)
              go_wp2_with fail
              refine (K.out c u oo _ hr).mono ?_
              rintro e w2 ⟨rfl, h2, f2⟩
              go_wp2_with fail
              refine (N.out w2).mono ?_
              rintro e w4 ⟨rfl, hb⟩
              have h4 := h2.below hb
              have f4 := (hf.trans f2).trans (Fr.of hb)
              clear hb h2 f2
              go_wp2_with fail
              go_roundw
              case rel => exact ⟨acc ++ [c], u, oo, by rw [← U.out], h4, f4, by have := HL.out; simp at *; omega, HX.out⟩
              case measure => rw [h4.left, hr.left]; exact encs_lt c u
end Go.Proofs.YtmgkccnfhkcncaaGreatDoor
