/-
  laws.only: the only token of a plain text.
-/
import Derived.Test.YtmgkccnfhkcncaaDoorSpecTokens
import Derived.Test.YtmgkccnfhkcncaaDoorMathH
import Derived.Test.YtmgkccnfhkcncaaDoorPlain
import Derived.Laws.ResultCell
namespace Go.Proofs.YtmgkccnfhkcncaaDoor
open Go.RowKit

/-- What only hands back: a token, and whether it is the only one, without a comment, with nothing left open. -/
def OnlyR (s : ByteArray) (kd : Int) (tx : ByteArray) (ok : Bool) : Prop := ok = true → ∃ c t tk, s.data.toList = encs (c :: t) ∧ (∀ x ∈ c :: t, Cp x) ∧ nextS c t = (tk, [], false) ∧ kd = (tk.kind : Int) ∧ tx = strOf tk.text
theorem only_end {fn : Func} {post : Ending → World → Prop} {a : Act} {w : World} {R : Nat} {v0 v1 v2 v3 v4 v5 ok : Value} (hr : fn.results = #[.cell 2 29, .tmp 3]) (hp : a.tmps.getD 2 undef = .pointer (some ⟨R, 0, none⟩)) (ho : a.tmps.getD 3 undef = ok) (hd : a.defers = []) (h : ZB R w)
    (hpost : post (.returned (.tuple #[.agg #[v0, v1, v2, v3, v4, v5], ok])) (put6 w R v0 v1 v2 v3 v4 v5)) : bodyPost Tryd.prog fn post .ret a (put6 w R v0 v1 v2 v3 v4 v5) := by
  refine bodyPost_ret ?_ hd hpost
  rw [results_cell_tmp hr, hp, ho]
  simp [asAddr, run_loadVar_row _ R _ 29 _ _ _ (put6_heap h v0 v1 v2 v3 v4 v5) Tryd.underlying29 rfl infoTok, Result.andThen]
theorem only_endN {fn : Func} {post : Ending → World → Prop} {a : Act} {w : World} {v0 v1 v2 v3 v4 v5 ok : Value} (hr : fn.results = #[.cell 2 29, .tmp 3]) (hp : a.tmps.getD 2 undef = .pointer (some ⟨w.heap.size, 0, none⟩)) (ho : a.tmps.getD 3 undef = ok) (hd : a.defers = [])
    (hpost : post (.returned (.tuple #[.agg #[v0, v1, v2, v3, v4, v5], ok])) (w.alloc (.cells #[v0, v1, v2, v3, v4, v5] 29))) : bodyPost Tryd.prog fn post .ret a (w.alloc (.cells #[v0, v1, v2, v3, v4, v5] 29)) := by
  refine bodyPost_ret ?_ hd hpost
  rw [results_cell_tmp hr, hp, ho]
  simp [asAddr, run_loadVar_row _ w.heap.size _ 29 _ _ _ (heap_alloc_new w (.cells #[v0, v1, v2, v3, v4, v5] 29)) Tryd.underlying29 rfl infoTok, Result.andThen]
theorem ZB.below {B R : Nat} {w w' : World} (h : ZB R w) (hb : Below B w w') (hR : R < B) : ZB R w' := (hb.block R hR).trans h
theorem below_put6 {B R : Nat} {w w' : World} (h : Below B w w') (hR : B ≤ R) (v0 v1 v2 v3 v4 v5 : Value) : Below B w (put6 w' R v0 v1 v2 v3 v4 v5) :=
  (((((h.setCell (p := ⟨R, 0, none⟩) hR v0).setCell (p := ⟨R, 1, none⟩) hR v1).setCell (p := ⟨R, 2, none⟩) hR v2).setCell (p := ⟨R, 3, none⟩) hR v3).setCell (p := ⟨R, 4, none⟩) hR v4).setCell (p := ⟨R, 5, none⟩) hR v5
theorem only_none (s : ByteArray) (kd : Int) (tx : ByteArray) : OnlyR s kd tx false := fun h => by cases h
/-- What only's caller sees. -/
def OnlyP (s : ByteArray) (w : World) (e : Ending) (w' : World) : Prop := ∃ kd st en un id tx ok, e = .returned (.tuple #[.agg #[.int .i64 kd, .int .i64 st, .int .i64 en, .int .i64 un, .bool id, .string tx], .bool ok]) ∧ OnlyR s kd tx ok ∧ Below w.heap.size w w'
theorem only_zero (s : ByteArray) (w w' : World) (h : Below w.heap.size w w') : OnlyP s w (.returned (.tuple #[.agg #[.int .i64 0, .int .i64 0, .int .i64 0, .int .i64 0, .bool false, .string ⟨#[]⟩], .bool false])) w' :=
  ⟨0, 0, 0, 0, false, _, false, rfl, only_none _ _ _, h⟩

/-- The one token of a row, by its cells. -/
theorem one_row {w : World} {base : Nat} {a : Option Addr} {cap S : Nat} {tp : Tp} (h : w.ownsRow base 29 6 (.slice a 1 cap) 1 (cellsT S [tp])) : ∃ g, a = some ⟨g, 0, none⟩ ∧ base ≤ g ∧
    w.cell? ⟨g, 0, none⟩ = some (.int .i64 (tp.tk.kind : Int)) ∧ w.cell? ⟨g, 1, none⟩ = some (.int .i64 ((S - tp.b : Nat) : Int)) ∧ w.cell? ⟨g, 2, none⟩ = some (.int .i64 ((S - tp.e : Nat) : Int)) ∧ w.cell? ⟨g, 3, none⟩ = some (.int .i64 (tp.tk.unit : Int)) ∧
    w.cell? ⟨g, 4, none⟩ = some (.bool tp.tk.id) ∧ w.cell? ⟨g, 5, none⟩ = some (.string (strOf tp.tk.text)) := by
  rcases h.2 with ⟨_, h0⟩ | ⟨g, cap', cur, hv, hg, hb, h1, h2, h3, h4⟩
  · cases h0
  · injection hv with e1 _ _
    have hc : ∀ i (v : Value), i < 6 → (cellsT S [tp])[i]? = some v → w.cell? ⟨g, i, none⟩ = some v := by
      intro i v hi hx
      rw [Lib.cell_of_heap hb, ← hx, ← h4, List.getElem?_take, if_pos (by omega), Array.getElem?_toList]
    exact ⟨g, e1, hg, hc 0 _ (by decide) rfl, hc 1 _ (by decide) rfl, hc 2 _ (by decide) rfl, hc 3 _ (by decide) rfl, hc 4 _ (by decide) rfl, hc 5 _ (by decide) rfl⟩
theorem comm_none {l : List Nat} (h : (commS l).1 = []) : (commS l).2.1 = l := by
  by_cases hc : cpAt l 0 = 47 ∧ cpAt l 1 = 42
  · obtain ⟨t, rfl⟩ := two_len hc
    cases hs : closeS t with
    | none => rw [commS_open t hs] at h; cases h
    | some r => rw [commS_some t r hs] at h; cases h
  · rw [commS_no l hc]
theorem only_tok {l : List Nat} {tp : Tp} (h : TokR [tp] l [] false) : ∃ c t, l = c :: t ∧ nextS c t = (tp.tk, [], false) := by
  obtain ⟨c, t, cs', op', h1, rfl, ⟨h2, h3, h4⟩, h5, h6⟩ := h
  have hc0 : (commS l).1 = [] := (List.append_eq_nil_iff.1 h5.symm).1
  have hcs : cs' = [] := (List.append_eq_nil_iff.1 h5.symm).2
  have e1 := comm_none hc0
  have e2 := comm_none (h3.symm.trans hcs)
  rw [e1] at h1
  rw [h2] at e2
  have e3 := Bool.or_eq_false_iff.1 h6.symm
  have e4 := Bool.or_eq_false_iff.1 e3.2
  exact ⟨c, t, h1, Prod.ext rfl (Prod.ext e2.symm e4.1)⟩

set_option maxHeartbeats 8000000 in
set_option maxRecDepth 100000 in
theorem onlyL (s : ByteArray) (w : World) (hz : s.size ≤ 4294967296) :
    Calls Tryd.prog 16 #[.string s] w fun e w' => OnlyP s w e w' := by
  have N := Lib.hid (fun w => lfew s w)
  by_cases h2 : s.size ≤ 32768
  · rw [decide_eq_true h2] at N
    obtain ⟨b, hb⟩ : ∃ b, plainL s.data.toList = b := ⟨_, rfl⟩
    have I := Lib.hid (fun (w : World) => by
      have h := isPlain s w hz
      rw [hb] at h
      exact h)
    cases b
    · clear hb
      go_enter Tryd.func16, Tryd.ntmps16
      go_wp2_with (go_at_call 13; refine (N.out _).mono ?_; rintro e w' ⟨rfl, rfl⟩)
      refine (I.out _).mono ?_
      rintro e w' ⟨rfl, rfl⟩
      go_wp2_with fail
      refine only_endN rfl rfl rfl rfl ?_
      exact only_zero _ _ _ ((Below.refl _ _).alloc (Nat.le_refl _) _)
    · obtain ⟨l, hd, hl, _⟩ := plainL_cps hb
      have T := Lib.hid (fun w => tokensL s l w hd hl (by omega))
      have HD := Lib.hid hd
      have HCP := Lib.hid hl
      clear hb hd hl
      go_enter Tryd.func16, Tryd.ntmps16
      go_wp2_with (go_at_call 13; refine (N.out _).mono ?_; rintro e w' ⟨rfl, rfl⟩)
      refine (I.out _).mono ?_
      rintro e w' ⟨rfl, rfl⟩
      go_wp2_with fail
      refine (T.out _).mono ?_
      rintro e w1 ⟨ov, cv, op, acc, cacc, rfl, hT, hov, hcv, hB⟩
      obtain ⟨na, hna⟩ : ∃ n, acc.length = n := ⟨_, rfl⟩
      obtain ⟨nc, hnc⟩ : ∃ n, cacc.length = n := ⟨_, rfl⟩
      rw [hna] at hov
      rw [hnc] at hcv
      obtain ⟨a1, k1, rfl⟩ := row_form hov
      obtain ⟨a2, k2, rfl⟩ := row_form hcv
      have hz1 : w.heap.size < w1.heap.size := by have := hB.size; simp at this; omega
      have HB := Lib.hid (show Below w.heap.size w w1 from ((Below.refl _ _).alloc (Nat.le_refl _) _).trans (hB.mono (by simp)))
      have zb := ((ZB.new w).below hB (by simp) : ZB w.heap.size w1)
      obtain ⟨c0, c1, c2, c3, c4, c5⟩ := zb.c
      obtain ⟨z0, z1, z2, z3, z4, z5⟩ := zb.z
      have ZZ := Lib.hid zb
      clear zb
      have HTR := Lib.hid hT
      have HOV := Lib.hid hov
      have HNA := Lib.hid hna
      have HNC := Lib.hid hnc
      clear hT hov hcv hB hna hnc
      by_cases n1 : na = 1
      · subst n1
        by_cases n2 : nc = 0
        · subst n2
          cases op
          · obtain ⟨tp, rfl⟩ : ∃ tp, acc = [tp] := by
              have h := HNA.out
              match acc, h with
              | [tp], _ => exact ⟨tp, rfl⟩
            obtain rfl : cacc = [] := List.eq_nil_of_length_eq_zero HNC.out
            obtain ⟨g, rfl, hg, q0, q1, q2, q3, q4, q5⟩ := one_row HOV.out
            go_wp2_with fail
            refine only_end rfl rfl rfl rfl ZZ.out ?_
            refine ⟨_, _, _, _, _, _, true, rfl, ?_, below_put6 HB.out (Nat.le_refl _) _ _ _ _ _ _⟩
            intro _
            obtain ⟨c, t, h1, h2⟩ := only_tok HTR.out
            exact ⟨c, t, tp.tk, by rw [HD.out, h1], by rw [← h1]; exact HCP.out, h2, rfl, rfl⟩
          · go_wp2_with fail
            refine only_end rfl rfl rfl rfl ZZ.out ?_
            exact only_zero _ _ _ (below_put6 HB.out (Nat.le_refl _) _ _ _ _ _ _)
        · have t2 : (0 : Int) < (nc : Int) := by omega
          clear n2
          go_wp2_with fail
          refine only_end rfl rfl rfl rfl ZZ.out ?_
          exact only_zero _ _ _ (below_put6 HB.out (Nat.le_refl _) _ _ _ _ _ _)
      · have t1 : ((na : Int) == 1) = false := beq_eq_false_iff_ne.2 (by omega)
        have t2 : ((na : Int) != 1) = true := bne_iff_ne.2 (by omega)
        clear n1
        go_wp2_with fail
        refine only_end rfl rfl rfl rfl ZZ.out ?_
        exact only_zero _ _ _ (below_put6 HB.out (Nat.le_refl _) _ _ _ _ _ _)
  · rw [decide_eq_false h2] at N
    have X := Lib.hid h2
    clear h2
    go_enter Tryd.func16, Tryd.ntmps16
    go_wp2_with (go_at_call 13; refine (N.out _).mono ?_; rintro e w' ⟨rfl, rfl⟩)
    refine only_endN rfl rfl rfl rfl ?_
    exact only_zero _ _ _ ((Below.refl _ _).alloc (Nat.le_refl _) _)
end Go.Proofs.YtmgkccnfhkcncaaDoor
