/-
  FnDecodedInPieces: two names with escapes, one behind the other, in plain texts of at most 32768 bytes that are this one token and are not left open, are decoded as the one, and then the other (for all other texts the statement says true). No condition.
-/
import Derived.Test.YtmgkccnfhkcncaaDoorOnly
import Derived.Test.YtmgkccnfhkcncaaDoorDecoded
namespace Go.Proofs.YtmgkccnfhkcncaaDoor.fnDecodedInPieces
open Go.RowKit

theorem dec2 {a0 : ByteArray} {kd : Int} {tx : ByteArray} {ok : Bool} (h : OnlyR a0 kd tx ok) (ho : ok = true) (hk : kd = 29) : ∃ l, a0.data.toList = encs l ∧ (∀ c ∈ l, Cp c) ∧ tx = strOf (decP l) ∧ decP l ≠ [] := by
  obtain ⟨c, t, tk, h1, h2, h3, h4, h5⟩ := h ho
  obtain ⟨h6, h7⟩ := next_ident h3 (by omega)
  exact ⟨c :: t, h1, h2, by rw [h5, h6], by rw [h6]; exact h7⟩
theorem tk_cells {w : World} {R : Nat} {v0 v1 v2 v3 v4 v5 : Value} (h : w.heap[R]? = some (.cells #[v0, v1, v2, v3, v4, v5] 29 (0, 0))) :
    R < w.heap.size ∧ w.cell? ⟨R, 0, none⟩ = some v0 ∧ w.cell? ⟨R, 5, none⟩ = some v5 := by
  refine ⟨(Array.getElem?_eq_some_iff.1 h).1, ?_, ?_⟩
  all_goals (rw [Lib.cell_of_heap h]; rfl)
theorem ne_empty {s : ByteArray} (h : s.data.toList ≠ []) : s.toList.isEmpty = false ∧ (s.toList = []) = False := by
  rw [ByteArray.toList_eq]
  refine ⟨?_, eq_false h⟩
  cases hh : s.data.toList with
  | nil => exact absurd hh h
  | cons => rfl
theorem stepC_out (l : List Nat) : (stepC l).1.length ≤ 1 := by
  match l with
  | [] => decide
  | [c] => by_cases h : c = 92
           · subst h; rw [stepC_end]; exact Nat.le_refl _
           · rw [stepC_plain c [] h]; exact Nat.le_refl _
  | c :: d :: u =>
    by_cases h : c = 92
    · subst h
      rw [stepC_esc]
      unfold escC
      split
      · exact Nat.le_refl _
      · split
        · exact Nat.zero_le _
        · split
          · exact Nat.zero_le _
          · exact Nat.le_refl _
    · rw [stepC_plain c _ h]; exact Nat.le_refl _
theorem decP_len : ∀ (n : Nat) (l : List Nat), l.length ≤ n → (decP l).length ≤ l.length
  | 0, l, h => by
    have : l = [] := List.eq_nil_of_length_eq_zero (by omega)
    subst this; exact Nat.le_refl _
  | n + 1, l, h => by
    by_cases hl : l = []
    · subst hl; exact Nat.le_refl _
    · have h1 := stepC_len l hl
      have h2 := stepC_out l
      have h3 := decP_len n (stepC l).2 (by omega)
      rw [decP_step l hl, List.length_append]
      omega
theorem tx_size {a0 : ByteArray} {l : List Nat} {tx : ByteArray} (h : a0.data.toList = encs l) (ht : tx = strOf (decP l)) : tx.size ≤ 4 * a0.size := by
  have h1 := decP_len _ l (Nat.le_refl _)
  have h2 := strOf_size (decP l)
  have h3 := encs_len_le l
  rw [← size_of h] at h3
  rw [ht]
  omega

set_option maxHeartbeats 8000000 in
set_option maxRecDepth 100000 in
theorem walk (a0 a1 : ByteArray) (w : World) (w0 : a0.size ≤ maxLen) (w1 : a1.size ≤ maxLen) (hT : Lib.Utf8Tabs 0 1 w) :
    Calls Tryd.prog 6 #[.string a0, .string a1] w fun e w' => e = .returned (.bool true) ∧ Below w.heap.size w w' := by
  unfold maxLen at w0 w1
  by_cases h1 : a0.size ≤ 2147483647
  · by_cases h2 : a1.size ≤ 2147483647
    · have O1 := Lib.hid (fun w => onlyL a0 w (by omega))
      have O2 := Lib.hid (fun w => onlyL a1 w (by omega))
      have O3 := Lib.hid (fun w => onlyL (a0 ++ a1) w (by simp only [ByteArray.size_append]; omega))
      have T := Lib.hid hT
      clear hT
      go_enter Tryd.func6, Tryd.ntmps6
      go_wp2_with fail
      refine (O1.out _).mono ?_
      rintro e u1 ⟨kd1, st1, en1, un1, id1, tx1, ok1, rfl, hR1, hB1⟩
      have HR1 := Lib.hid hR1
      have HB1 := Lib.hid hB1
      clear hR1 hB1
      go_wp2_with fail
      obtain ⟨R1, hr1⟩ : ∃ R, u1.heap.size = R := ⟨_, rfl⟩
      obtain ⟨v1, hv1⟩ : ∃ x, u1.alloc (.cells #[.int .i64 kd1, .int .i64 st1, .int .i64 en1, .int .i64 un1, .bool id1, .string tx1] 29) = x := ⟨_, rfl⟩
      have K1 := Lib.hid (show v1.heap[R1]? = some (.cells #[.int .i64 kd1, .int .i64 st1, .int .i64 en1, .int .i64 un1, .bool id1, .string tx1] 29 (0, 0)) by rw [← hv1, ← hr1]; exact heap_alloc_new u1 _)
      have VB1 := Lib.hid (show Below w.heap.size w v1 by rw [← hv1]; exact HB1.out.alloc HB1.out.size _)
      rw [hv1, hr1]
      clear hv1 hr1
      refine (O2.out _).mono ?_
      rintro e u2 ⟨kd2, st2, en2, un2, id2, tx2, ok2, rfl, hR2, hB2⟩
      have HR2 := Lib.hid hR2
      have HB2 := Lib.hid (VB1.out.trans (hB2.mono VB1.out.size))
      have K1u2 := Lib.hid ((hB2.block R1 (tk_cells K1.out).1).trans K1.out)
      clear hR2 hB2
      go_upto_region 5 with fail
      obtain ⟨R2, hr2⟩ : ∃ R, u2.heap.size = R := ⟨_, rfl⟩
      obtain ⟨v2, hv2⟩ : ∃ x, u2.alloc (.cells #[.int .i64 kd2, .int .i64 st2, .int .i64 en2, .int .i64 un2, .bool id2, .string tx2] 29) = x := ⟨_, rfl⟩
      have K2 := Lib.hid (show v2.heap[R2]? = some (.cells #[.int .i64 kd2, .int .i64 st2, .int .i64 en2, .int .i64 un2, .bool id2, .string tx2] 29 (0, 0)) by rw [← hv2, ← hr2]; exact heap_alloc_new u2 _)
      have VB2 := Lib.hid (show Below w.heap.size w v2 by rw [← hv2]; exact HB2.out.alloc HB2.out.size _)
      have K12 := Lib.hid ((show v2.heap[R1]? = u2.heap[R1]? by rw [← hv2]; exact Below.heap_alloc u2 _ R1 (tk_cells K1u2.out).1).trans K1u2.out)
      rw [hv2, hr2]
      clear hv2 hr2
      obtain ⟨l12, c10, c15⟩ := tk_cells K12.out
      obtain ⟨l22, c20, c25⟩ := tk_cells K2.out
      by_cases g : ok1 = true ∧ ok2 = true ∧ kd1 = 29 ∧ kd2 = 29
      · obtain ⟨rfl, rfl, rfl, rfl⟩ := g
        go_wp2_with fail
        refine (O3.out _).mono ?_
        rintro e u3 ⟨kd3, st3, en3, un3, id3, tx3, ok3, rfl, hR3, hB3⟩
        have HR3 := Lib.hid hR3
        have HB3 := Lib.hid (VB2.out.trans (hB3.mono VB2.out.size))
        have K1u3 := Lib.hid ((hB3.block R1 (tk_cells K12.out).1).trans K12.out)
        have K2u3 := Lib.hid ((hB3.block R2 (tk_cells K2.out).1).trans K2.out)
        clear hR3 hB3 c10 c15 c20 c25 l12 l22
        go_upto_region 8 with fail
        obtain ⟨R3, hr3⟩ : ∃ R, u3.heap.size = R := ⟨_, rfl⟩
        obtain ⟨v3, hv3⟩ : ∃ x, u3.alloc (.cells #[.int .i64 kd3, .int .i64 st3, .int .i64 en3, .int .i64 un3, .bool id3, .string tx3] 29) = x := ⟨_, rfl⟩
        have K3 := Lib.hid (show v3.heap[R3]? = some (.cells #[.int .i64 kd3, .int .i64 st3, .int .i64 en3, .int .i64 un3, .bool id3, .string tx3] 29 (0, 0)) by rw [← hv3, ← hr3]; exact heap_alloc_new u3 _)
        have VB3 := Lib.hid (show Below w.heap.size w v3 by rw [← hv3]; exact HB3.out.alloc HB3.out.size _)
        have K13 := Lib.hid ((show v3.heap[R1]? = u3.heap[R1]? by rw [← hv3]; exact Below.heap_alloc u3 _ R1 (tk_cells K1u3.out).1).trans K1u3.out)
        have K23 := Lib.hid ((show v3.heap[R2]? = u3.heap[R2]? by rw [← hv3]; exact Below.heap_alloc u3 _ R2 (tk_cells K2u3.out).1).trans K2u3.out)
        rw [hv3, hr3]
        clear hv3 hr3
        obtain ⟨l13, c10, c15⟩ := tk_cells K13.out
        obtain ⟨l23, c20, c25⟩ := tk_cells K23.out
        obtain ⟨l33, c30, c35⟩ := tk_cells K3.out
        obtain ⟨p1, hp1, hpc1, hpt1, hpe1⟩ := dec2 HR1.out rfl rfl
        obtain ⟨p2, hp2, hpc2, hpt2, _⟩ := dec2 HR2.out rfl rfl
        have s1 := tx_size hp1 hpt1
        have s2 := tx_size hp2 hpt2
        by_cases g3 : ok3 = true
        · subst g3
          by_cases g4 : kd3 = 29
          · subst g4
            obtain ⟨p3, hp3, hpc3, hpt3, _⟩ := dec2 HR3.out rfl rfl
            have D1 := Lib.hid (fun w hT => implDecoded a0 p1 w hp1 hpc1 (by omega) hT)
            have D2 := Lib.hid (fun w hT => implDecoded a1 p2 w hp2 hpc2 (by omega) hT)
            have D3 := Lib.hid (fun w hT => implDecoded (a0 ++ a1) p3 w hp3 hpc3 (by simp only [ByteArray.size_append]; omega) hT)
            rw [← hpt1] at D1
            rw [← hpt2] at D2
            rw [← hpt3] at D3
            have hne : tx1.data.toList ≠ [] := by
              rw [hpt1, strOf_list]
              exact fun e => hpe1 ((encs_eq_nil _).1 e)
            have NE := Lib.hid hne
            have T3 := Lib.hid (Utf8Tabs_below T.out VB3.out)
            clear hp1 hpc1 hpt1 hpe1 hp2 hpc2 hpt2 hp3 hpc3 hpt3 hne
            obtain ⟨n1, n2⟩ := ne_empty NE.out
            by_cases g5 : tx3.toList = (tx1 ++ tx2).toList
            · have e1 : (tx3.toList == (tx1 ++ tx2).toList) = true := beq_iff_eq.2 g5
              clear g5
              go_wp2_with fail
              refine (D3.out _ T3.out).mono ?_
              rintro e u4 ⟨rfl, hb4⟩
              have B4 := Lib.hid (VB3.out.trans (hb4.mono VB3.out.size))
              have T4 := Lib.hid (Utf8Tabs_below T.out B4.out)
              clear hb4
              go_wp2_with fail
              refine (D1.out _ T4.out).mono ?_
              rintro e u5 ⟨rfl, hb5⟩
              have B5 := Lib.hid (B4.out.trans (hb5.mono B4.out.size))
              have T5 := Lib.hid (Utf8Tabs_below T.out B5.out)
              clear hb5
              go_wp2_with fail
              refine (D2.out _ T5.out).mono ?_
              rintro e u6 ⟨rfl, hb6⟩
              have B6 := Lib.hid (B5.out.trans (hb6.mono B5.out.size))
              have T6 := Lib.hid (Utf8Tabs_below T.out B6.out)
              clear hb6
              go_wp2_with fail
              refine (D1.out _ T6.out).mono ?_
              rintro e u7 ⟨rfl, hb7⟩
              have B7 := Lib.hid (B6.out.trans (hb7.mono B6.out.size))
              clear hb7
              go_wp2_with fail
              go_ret
              exact ⟨rfl, B7.out⟩
            · have e1 : (tx3.toList == (tx1 ++ tx2).toList) = false := beq_eq_false_iff_ne.2 g5
              clear g5
              go_wp2_with fail
              go_ret
              exact ⟨rfl, VB3.out⟩
          · have t1 : (kd3 == 29) = false := beq_eq_false_iff_ne.2 g4
            have t2 : (kd3 != 29) = true := bne_iff_ne.2 g4
            clear g4
            go_wp2_with fail
            go_ret
            exact ⟨rfl, VB3.out⟩
        · obtain rfl : ok3 = false := by simpa using g3
          clear g3
          go_wp2_with fail
          go_ret
          exact ⟨rfl, VB3.out⟩
      · cases ok1
        · clear g
          go_wp2_with fail
          go_ret
          exact ⟨rfl, VB2.out⟩
        · cases ok2
          · clear g
            go_wp2_with fail
            go_ret
            exact ⟨rfl, VB2.out⟩
          · by_cases g1 : kd1 = 29
            · subst g1
              have g2 : kd2 ≠ 29 := fun e => g ⟨rfl, rfl, rfl, e⟩
              have t1 : (kd2 == 29) = false := beq_eq_false_iff_ne.2 g2
              have t2 : (kd2 != 29) = true := bne_iff_ne.2 g2
              clear g g2
              go_wp2_with fail
              go_ret
              exact ⟨rfl, VB2.out⟩
            · have t1 : (kd1 == 29) = false := beq_eq_false_iff_ne.2 g1
              have t2 : (kd1 != 29) = true := bne_iff_ne.2 g1
              clear g g1
              go_wp2_with fail
              go_ret
              exact ⟨rfl, VB2.out⟩
    · go_enter Tryd.func6, Tryd.ntmps6
      go_wp2
      go_ret
      exact ⟨rfl, Below.refl _ _⟩
  · go_enter Tryd.func6, Tryd.ntmps6
    go_wp2
    go_ret
    exact ⟨rfl, Below.refl _ _⟩
end Go.Proofs.YtmgkccnfhkcncaaDoor.fnDecodedInPieces
