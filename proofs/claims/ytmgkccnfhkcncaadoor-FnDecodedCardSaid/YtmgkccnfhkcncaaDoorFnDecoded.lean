/-
  FnDecoded: the inside of every string and every identifier with escapes, in a plain text of at most 32768 bytes that is this one token and is not left open, means what the standard says (for all other texts the statement says true). No condition.
-/
import Derived.Test.YtmgkccnfhkcncaaDoorOnly
import Derived.Test.YtmgkccnfhkcncaaDoorDecoded
import Derived.Deep.RegionHeld3
import Derived.Deep.DrawnRows
namespace Go.Proofs.YtmgkccnfhkcncaaDoor.fnDecoded
open Go.RowKit
attribute [local go_sem ↓] Go.wp_at_zero Go.wp_at_succ

/-- Bytes that begin with a quote and end with one. -/
theorem in_quotes {X : List UInt8} {l : List Nat} (hl : ∀ c ∈ l, Cp c) (h : 34 :: (X ++ [34]) = encs l) : ∃ m, l = 34 :: (m ++ [34]) ∧ X = encs m ∧ ∀ c ∈ m, Cp c := by
  match l, hl, h with
  | [], _, h => cases h
  | c :: t, hl, h =>
    have hc := hl c (by simp)
    have h34 : Cp 34 := by unfold Cp; omega
    have e1 : Lib.decodeL (encs (c :: t)) = (c, (enc c).length) := dec_encs c hc t
    have e2 : Lib.decodeL (34 :: (X ++ [34])) = (34, (enc 34).length) := by
      have := dec_enc 34 h34 (X ++ [34])
      rwa [enc_ascii 34 (by omega)] at this
    rw [← h, e2] at e1
    obtain rfl : 34 = c := (Prod.mk.inj e1).1
    rw [encs_cons, enc_ascii 34 (by omega)] at h
    have h' : X ++ [34] = encs t := (List.cons.inj h).2
    rcases List.eq_nil_or_concat t with rfl | ⟨m, d, rfl⟩
    · simp [encs] at h'
    · rw [List.concat_eq_append] at h' hl ⊢
      rw [encs_append, encs_one] at h'
      have hd := hl d (by simp)
      by_cases h128 : d < 128
      · rw [enc_ascii d h128] at h'
        obtain ⟨h1, h2⟩ := List.append_inj' h' rfl
        have h3 : (34 : UInt8) = d.toUInt8 := (List.cons.inj h2).1
        have h4 : (34 : UInt8).toNat = d.toUInt8.toNat := congrArg UInt8.toNat h3
        have h5 : d.toUInt8.toNat = d := by simp; omega
        obtain rfl : d = 34 := by rw [h5] at h4; exact h4.symm
        exact ⟨m, rfl, h1, fun e he => hl e (by simp [he])⟩
      · exfalso
        have hne := enc_ne d
        have h1 : (X ++ [34]).getLast? = (encs m ++ enc d).getLast? := by rw [h']
        rw [List.getLast?_append, List.getLast?_append] at h1
        have h2 : (enc d).getLast? = some 34 := by
          cases hg : (enc d).getLast? with
          | none => exact absurd (List.getLast?_eq_none_iff.1 hg) hne
          | some y => rw [hg] at h1; simpa using h1.symm
        have h3 := enc_high d (by omega) 34 (List.mem_of_getLast? h2)
        exact absurd h3 (by decide)
theorem dec1 {a0 s : ByteArray} {kd : Int} {tx : ByteArray} {ok : Bool} (hs : s.data.toList = 34 :: (a0.data.toList ++ [34])) (h : OnlyR s kd tx ok) (ho : ok = true) (hk : kd = 36) : ∃ l, a0.data.toList = encs l ∧ (∀ c ∈ l, Cp c) ∧ tx = strOf (decP l) := by
  obtain ⟨c, t, tk, h1, h2, h3, h4, h5⟩ := h ho
  rw [hs] at h1
  obtain ⟨m, h6, h7, h8⟩ := in_quotes h2 h1
  injection h6 with h6 h9
  subst h6
  subst h9
  exact ⟨m, h7, h8, by rw [h5, next_string h3 (by omega)]⟩
theorem dec2 {a0 : ByteArray} {kd : Int} {tx : ByteArray} {ok : Bool} (h : OnlyR a0 kd tx ok) (ho : ok = true) (hk : kd = 29) : ∃ l, a0.data.toList = encs l ∧ (∀ c ∈ l, Cp c) ∧ tx = strOf (decP l) ∧ decP l ≠ [] := by
  obtain ⟨c, t, tk, h1, h2, h3, h4, h5⟩ := h ho
  obtain ⟨h6, h7⟩ := next_ident h3 (by omega)
  exact ⟨c :: t, h1, h2, by rw [h5, h6], by rw [h6]; exact h7⟩

/-- A token's block, and what is kept of it. -/
theorem tk_cells {w : World} {R : Nat} {v0 v1 v2 v3 v4 v5 : Value} (h : w.heap[R]? = some (.cells #[v0, v1, v2, v3, v4, v5] 29 (0, 0))) :
    R < w.heap.size ∧ w.cell? ⟨R, 0, none⟩ = some v0 ∧ w.cell? ⟨R, 1, none⟩ = some v1 ∧ w.cell? ⟨R, 2, none⟩ = some v2 ∧ w.cell? ⟨R, 3, none⟩ = some v3 ∧ w.cell? ⟨R, 4, none⟩ = some v4 ∧ w.cell? ⟨R, 5, none⟩ = some v5 ∧
    w.frozen? ⟨R, 0, none⟩ = false ∧ w.frozen? ⟨R, 1, none⟩ = false ∧ w.frozen? ⟨R, 2, none⟩ = false ∧ w.frozen? ⟨R, 3, none⟩ = false ∧ w.frozen? ⟨R, 4, none⟩ = false ∧ w.frozen? ⟨R, 5, none⟩ = false := by
  refine ⟨(Array.getElem?_eq_some_iff.1 h).1, ?_, ?_, ?_, ?_, ?_, ?_, ?_, ?_, ?_, ?_, ?_, ?_⟩
  iterate 6 (rw [Lib.cell_of_heap h]; rfl)
  all_goals exact Lib.frozen_of_heap h _

theorem below_drew' {w w1 : World} (h : Below w.drew.heap.size w.drew w1) : Below w.heap.size w w1 := ⟨h.os, h.tape, h.output, h.size, h.block⟩
theorem put6_over {R : Nat} {w : World} {u0 u1 u2 u3 u4 u5 : Value} (h : w.heap[R]? = some (.cells #[u0, u1, u2, u3, u4, u5] 29 (0, 0))) (v0 v1 v2 v3 v4 v5 : Value) : (put6 w R v0 v1 v2 v3 v4 v5).heap[R]? = some (.cells #[v0, v1, v2, v3, v4, v5] 29 (0, 0)) := by
  simp [put6, World.setCell, Array.getElem?_modify, h]

set_option maxHeartbeats 8000000 in
set_option maxRecDepth 100000 in
theorem walk (a0 : ByteArray) (w : World) (w0 : a0.size ≤ maxLen) (hT : Lib.Utf8Tabs 0 1 w) :
    Calls Tryd.prog 5 #[.string a0] w fun e w' => e = .returned (.bool true) ∧ Below w.heap.size w w' := by
  unfold maxLen at w0
  by_cases h1 : a0.size ≤ 2147483647
  · have O1 := Lib.hid (fun w => onlyL (⟨#[34]⟩ ++ a0 ++ ⟨#[34]⟩) w (by simp only [ByteArray.size_append]; show 1 + a0.size + 1 ≤ _; omega))
    have O2 := Lib.hid (fun w => onlyL a0 w (by omega))
    have HQ := Lib.hid (show (⟨#[34]⟩ ++ a0 ++ ⟨#[34]⟩ : ByteArray).data.toList = 34 :: (a0.data.toList ++ [34]) by simp)
    have T := Lib.hid hT
    clear hT
    go_enter Tryd.func5, Tryd.ntmps5
    go_wp2_with fail
    refine (O1.out _).mono ?_
    rintro e w1 ⟨kd, st, en, un, id, tx, ok, rfl, hR, hB⟩
    have HR := Lib.hid hR
    have HB := Lib.hid hB
    clear hR hB
    go_wp2_with fail
    obtain ⟨R, hRR⟩ : ∃ R, w1.heap.size = R := ⟨_, rfl⟩
    obtain ⟨w2, hw2⟩ : ∃ x, w1.alloc (.cells #[.int .i64 kd, .int .i64 st, .int .i64 en, .int .i64 un, .bool id, .string tx] 29) = x := ⟨_, rfl⟩
    have BK := Lib.hid (show w2.heap[R]? = some (.cells #[.int .i64 kd, .int .i64 st, .int .i64 en, .int .i64 un, .bool id, .string tx] 29 (0, 0)) by rw [← hw2, ← hRR]; exact heap_alloc_new w1 _)
    have B2 := Lib.hid (show Below w.heap.size w w2 by rw [← hw2]; exact HB.out.alloc HB.out.size _)
    have RZ := Lib.hid (show w.heap.size ≤ R by rw [← hRR]; exact HB.out.size)
    obtain ⟨hlt, c0, c1, c2, c3, c4, c5, z0, z1, z2, z3, z4, z5⟩ := tk_cells BK.out
    rw [hw2, hRR]
    clear hw2 hRR
    by_cases g1 : ok = true
    · subst g1
      by_cases g2 : kd = 36
      · subst g2
        obtain ⟨l, hd, hl, htx⟩ := dec1 HQ.out HR.out rfl rfl
        have D := Lib.hid (fun w hT => implDecoded a0 l w hd hl (by omega) hT)
        rw [← htx] at D
        have hT2 := Utf8Tabs_below T.out B2.out
        have TD := Lib.hid (show Lib.Utf8Tabs 0 1 w2.drew from hT2)
        clear hd hl htx hT2
        go_region_held3 (fun w' => w'.cell? ⟨R, 0, none⟩ = some (.int .i64 36) ∧ w'.cell? ⟨R, 5, none⟩ = some (.string tx)) (go_keep)
          ((go_at_call 17; refine (D.out _ TD.out).mono ?_; rintro e w3 ⟨rfl, hb3⟩; have j0 := (hb3.cell (p := ⟨R, 0, none⟩) hlt).trans c0; have j5 := (hb3.cell (p := ⟨R, 5, none⟩) hlt).trans c5))
        have BW := Lib.hid (B2.out.trans ((below_drew' hb3).mono B2.out.size))
        have KW := Lib.hid ((hb3.block R hlt).trans BK.out)
        have HLT := Lib.hid (show R < w3.heap.size by have := hb3.size; have : w2.drew.heap.size = w2.heap.size := rfl; omega)
        clear hb3
        go_wp2_with fail
        refine (O2.out _).mono ?_
        rintro e w5 ⟨kd2, st2, en2, un2, id2, tx2, ok2, rfl, hR2, hB5⟩
        have HR2 := Lib.hid hR2
        have K5 := Lib.hid ((hB5.block R HLT.out).trans KW.out)
        have B5 := Lib.hid (BW.out.trans (hB5.mono BW.out.size))
        obtain ⟨hlt5, q0, q1, q2, q3, q4, q5, y0, y1, y2, y3, y4, y5⟩ := tk_cells K5.out
        clear hR2 hB5
        go_wp2_with fail
        obtain ⟨w6, hw6⟩ : ∃ x, put6 w5 R (.int .i64 kd2) (.int .i64 st2) (.int .i64 en2) (.int .i64 un2) (.bool id2) (.string tx2) = x := ⟨_, rfl⟩
        have K6 := Lib.hid (show w6.heap[R]? = some (.cells #[.int .i64 kd2, .int .i64 st2, .int .i64 en2, .int .i64 un2, .bool id2, .string tx2] 29 (0, 0)) by rw [← hw6]; exact put6_over K5.out _ _ _ _ _ _)
        have B6 := Lib.hid (show Below w.heap.size w w6 by rw [← hw6]; exact below_put6 B5.out RZ.out _ _ _ _ _ _)
        unfold put6 at hw6
        rw [hw6]
        obtain ⟨hlt6, p0, p1, p2, p3, p4, p5, x0, x1, x2, x3, x4, x5⟩ := tk_cells K6.out
        clear hw6 q0 q1 q2 q3 q4 q5 y0 y1 y2 y3 y4 y5 hlt5
        by_cases g3 : ok2 = true
        · subst g3
          by_cases g4 : kd2 = 29
          · subst g4
            obtain ⟨l2, hd2, hl2, htx2, _⟩ := dec2 HR2.out rfl rfl
            have D2 := Lib.hid (fun w hT => implDecoded a0 l2 w hd2 hl2 (by omega) hT)
            rw [← htx2] at D2
            have hT6 := Utf8Tabs_below T.out B6.out
            have TD2 := Lib.hid (show Lib.Utf8Tabs 0 1 w6.drew from hT6)
            clear hd2 hl2 htx2 hT6
            go_region_held3 (fun w' => w'.cell? ⟨R, 0, none⟩ = some (.int .i64 29) ∧ w'.cell? ⟨R, 5, none⟩ = some (.string tx2)) (go_keep)
              ((go_at_call 17; refine (D2.out _ TD2.out).mono ?_; rintro e w7 ⟨rfl, hb7⟩; have i0 := (hb7.cell (p := ⟨R, 0, none⟩) hlt6).trans p0; have i5 := (hb7.cell (p := ⟨R, 5, none⟩) hlt6).trans p5))
            have B7 := Lib.hid (B6.out.trans ((below_drew' hb7).mono B6.out.size))
            go_wp2_with fail
            go_ret
            exact ⟨rfl, B7.out⟩
          · have t2 : (kd2 == 29) = false := beq_eq_false_iff_ne.2 g4
            have t3 : (kd2 != 29) = true := bne_iff_ne.2 g4
            clear g4
            go_quiet (fail)
            go_wp2_with fail
            go_ret
            exact ⟨rfl, B6.out.trans (below_draws _ _ _)⟩
        · obtain rfl : ok2 = false := by simpa using g3
          clear g3
          go_quiet (fail)
          go_wp2_with fail
          go_ret
          exact ⟨rfl, B6.out.trans (below_draws _ _ _)⟩
      · have t1 : (kd == 36) = false := beq_eq_false_iff_ne.2 g2
        clear g2
        go_quiet (fail)
        have BW := Lib.hid (B2.out.trans (below_draws w.heap.size nq w2))
        have KW := Lib.hid (show (w2.drewN nq).heap[R]? = _ from BK.out)
        have HLT := Lib.hid (show R < (w2.drewN nq).heap.size from hlt)
        go_wp2_with fail
        refine (O2.out _).mono ?_
        rintro e w5 ⟨kd2, st2, en2, un2, id2, tx2, ok2, rfl, hR2, hB5⟩
        have HR2 := Lib.hid hR2
        have K5 := Lib.hid ((hB5.block R HLT.out).trans KW.out)
        have B5 := Lib.hid (BW.out.trans (hB5.mono BW.out.size))
        obtain ⟨hlt5, q0, q1, q2, q3, q4, q5, y0, y1, y2, y3, y4, y5⟩ := tk_cells K5.out
        clear hR2 hB5
        go_wp2_with fail
        obtain ⟨w6, hw6⟩ : ∃ x, put6 w5 R (.int .i64 kd2) (.int .i64 st2) (.int .i64 en2) (.int .i64 un2) (.bool id2) (.string tx2) = x := ⟨_, rfl⟩
        have K6 := Lib.hid (show w6.heap[R]? = some (.cells #[.int .i64 kd2, .int .i64 st2, .int .i64 en2, .int .i64 un2, .bool id2, .string tx2] 29 (0, 0)) by rw [← hw6]; exact put6_over K5.out _ _ _ _ _ _)
        have B6 := Lib.hid (show Below w.heap.size w w6 by rw [← hw6]; exact below_put6 B5.out RZ.out _ _ _ _ _ _)
        unfold put6 at hw6
        rw [hw6]
        obtain ⟨hlt6, p0, p1, p2, p3, p4, p5, x0, x1, x2, x3, x4, x5⟩ := tk_cells K6.out
        clear hw6 q0 q1 q2 q3 q4 q5 y0 y1 y2 y3 y4 y5 hlt5
        by_cases g3 : ok2 = true
        · subst g3
          by_cases g4 : kd2 = 29
          · subst g4
            obtain ⟨l2, hd2, hl2, htx2, _⟩ := dec2 HR2.out rfl rfl
            have D2 := Lib.hid (fun w hT => implDecoded a0 l2 w hd2 hl2 (by omega) hT)
            rw [← htx2] at D2
            have hT6 := Utf8Tabs_below T.out B6.out
            have TD2 := Lib.hid (show Lib.Utf8Tabs 0 1 w6.drew from hT6)
            clear hd2 hl2 htx2 hT6
            go_region_held3 (fun w' => w'.cell? ⟨R, 0, none⟩ = some (.int .i64 29) ∧ w'.cell? ⟨R, 5, none⟩ = some (.string tx2)) (go_keep)
              ((go_at_call 17; refine (D2.out _ TD2.out).mono ?_; rintro e w7 ⟨rfl, hb7⟩; have i0 := (hb7.cell (p := ⟨R, 0, none⟩) hlt6).trans p0; have i5 := (hb7.cell (p := ⟨R, 5, none⟩) hlt6).trans p5))
            have B7 := Lib.hid (B6.out.trans ((below_drew' hb7).mono B6.out.size))
            go_wp2_with fail
            go_ret
            exact ⟨rfl, B7.out⟩
          · have t2 : (kd2 == 29) = false := beq_eq_false_iff_ne.2 g4
            have t3 : (kd2 != 29) = true := bne_iff_ne.2 g4
            clear g4
            go_quiet (fail)
            go_wp2_with fail
            go_ret
            exact ⟨rfl, B6.out.trans (below_draws _ _ _)⟩
        · obtain rfl : ok2 = false := by simpa using g3
          clear g3
          go_quiet (fail)
          go_wp2_with fail
          go_ret
          exact ⟨rfl, B6.out.trans (below_draws _ _ _)⟩
    · obtain rfl : ok = false := by simpa using g1
      clear g1
      go_quiet (fail)
      have BW := Lib.hid (B2.out.trans (below_draws w.heap.size nq w2))
      have KW := Lib.hid (show (w2.drewN nq).heap[R]? = _ from BK.out)
      have HLT := Lib.hid (show R < (w2.drewN nq).heap.size from hlt)
      go_wp2_with fail
      refine (O2.out _).mono ?_
      rintro e w5 ⟨kd2, st2, en2, un2, id2, tx2, ok2, rfl, hR2, hB5⟩
      have HR2 := Lib.hid hR2
      have K5 := Lib.hid ((hB5.block R HLT.out).trans KW.out)
      have B5 := Lib.hid (BW.out.trans (hB5.mono BW.out.size))
      obtain ⟨hlt5, q0, q1, q2, q3, q4, q5, y0, y1, y2, y3, y4, y5⟩ := tk_cells K5.out
      clear hR2 hB5
      go_wp2_with fail
      obtain ⟨w6, hw6⟩ : ∃ x, put6 w5 R (.int .i64 kd2) (.int .i64 st2) (.int .i64 en2) (.int .i64 un2) (.bool id2) (.string tx2) = x := ⟨_, rfl⟩
      have K6 := Lib.hid (show w6.heap[R]? = some (.cells #[.int .i64 kd2, .int .i64 st2, .int .i64 en2, .int .i64 un2, .bool id2, .string tx2] 29 (0, 0)) by rw [← hw6]; exact put6_over K5.out _ _ _ _ _ _)
      have B6 := Lib.hid (show Below w.heap.size w w6 by rw [← hw6]; exact below_put6 B5.out RZ.out _ _ _ _ _ _)
      unfold put6 at hw6
      rw [hw6]
      obtain ⟨hlt6, p0, p1, p2, p3, p4, p5, x0, x1, x2, x3, x4, x5⟩ := tk_cells K6.out
      clear hw6 q0 q1 q2 q3 q4 q5 y0 y1 y2 y3 y4 y5 hlt5
      by_cases g3 : ok2 = true
      · subst g3
        by_cases g4 : kd2 = 29
        · subst g4
          obtain ⟨l2, hd2, hl2, htx2, _⟩ := dec2 HR2.out rfl rfl
          have D2 := Lib.hid (fun w hT => implDecoded a0 l2 w hd2 hl2 (by omega) hT)
          rw [← htx2] at D2
          have hT6 := Utf8Tabs_below T.out B6.out
          have TD2 := Lib.hid (show Lib.Utf8Tabs 0 1 w6.drew from hT6)
          clear hd2 hl2 htx2 hT6
          go_region_held3 (fun w' => w'.cell? ⟨R, 0, none⟩ = some (.int .i64 29) ∧ w'.cell? ⟨R, 5, none⟩ = some (.string tx2)) (go_keep)
            ((go_at_call 17; refine (D2.out _ TD2.out).mono ?_; rintro e w7 ⟨rfl, hb7⟩; have i0 := (hb7.cell (p := ⟨R, 0, none⟩) hlt6).trans p0; have i5 := (hb7.cell (p := ⟨R, 5, none⟩) hlt6).trans p5))
          have B7 := Lib.hid (B6.out.trans ((below_drew' hb7).mono B6.out.size))
          go_wp2_with fail
          go_ret
          exact ⟨rfl, B7.out⟩
        · have t2 : (kd2 == 29) = false := beq_eq_false_iff_ne.2 g4
          have t3 : (kd2 != 29) = true := bne_iff_ne.2 g4
          clear g4
          go_quiet (fail)
          go_wp2_with fail
          go_ret
          exact ⟨rfl, B6.out.trans (below_draws _ _ _)⟩
      · obtain rfl : ok2 = false := by simpa using g3
        clear g3
        go_quiet (fail)
        go_wp2_with fail
        go_ret
        exact ⟨rfl, B6.out.trans (below_draws _ _ _)⟩
  · go_enter Tryd.func5, Tryd.ntmps5
    go_wp2
    go_ret
    exact ⟨rfl, Below.refl _ _⟩
end Go.Proofs.YtmgkccnfhkcncaaDoor.fnDecoded
