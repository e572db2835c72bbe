/-
  The reference: all tokens of a plain text.
-/
import Derived.Test.YtmgkccnfhkcncaaDoorSpecComm
import Derived.Test.YtmgkccnfhkcncaaDoorSpecNy
namespace Go.Proofs.YtmgkccnfhkcncaaDoor
open Go.RowKit

theorem ite_pos {p : Prop} [Decidable p] {a b : Nat} (h1 : a ≠ 0) (h2 : b ≠ 0) : (if p then a else b) ≠ 0 := by
  by_cases h : p
  · rw [if_pos h]; exact h1
  · rw [if_neg h]; exact h2
theorem signK_pos (c : Nat) : signK c ≠ 0 := by
  unfold signK
  repeat (refine ite_pos (by decide) ?_)
  decide
theorem nextS_kind (c : Nat) (t : List Nat) : (nextS c t).1.kind ≠ 0 := by
  unfold nextS
  split
  · show (38 : Nat) ≠ 0; decide
  split
  · exact ite_pos (by decide) (by decide)
  split
  · show (28 : Nat) ≠ 0; decide
  split
  · unfold numericS
    split
    · show (26 : Nat) ≠ 0; decide
    split
    · show (34 : Nat) ≠ 0; decide
    · show (30 : Nat) ≠ 0; decide
  split
  · show (4 : Nat) ≠ 0; decide
  split
  · unfold namedS
    split
    · show (29 : Nat) ≠ 0; decide
    · split
      · show (29 : Nat) ≠ 0; decide
      split
      · exact ite_pos (by decide) (by decide)
      · show (27 : Nat) ≠ 0; decide
  split
  · show (5 : Nat) ≠ 0; decide
  split
  · show (1 : Nat) ≠ 0; decide
  · exact signK_pos c
theorem commF_len : ∀ (f : Nat) (l : List Nat), (commF f l).1.length + (commF f l).2.1.length ≤ l.length
  | 0, l => by simp [commF]
  | f + 1, l => by
    unfold commF
    by_cases h : cpAt l 0 = 47 ∧ cpAt l 1 = 42
    · rw [if_pos h]
      obtain ⟨t, rfl⟩ := two_len h
      show (match closeS t with | none => _ | some r => _ : List (Nat × Nat) × List Nat × Bool).1.length + (match closeS t with | none => _ | some r => _ : List (Nat × Nat) × List Nat × Bool).2.1.length ≤ _
      cases hc : closeS t with
      | none => simp
      | some r =>
        have h1 := closeS_len _ _ hc
        have h2 := commF_len f r
        simp only [List.length_cons]
        omega
    · rw [if_neg h]; simp
theorem commS_len (l : List Nat) : (commS l).1.length + (commS l).2.1.length ≤ l.length := commF_len _ l
theorem commF_suf : ∀ (f : Nat) (l : List Nat), (commF f l).2.1 <:+ l
  | 0, l => List.suffix_refl _
  | f + 1, l => by
    unfold commF
    by_cases h : cpAt l 0 = 47 ∧ cpAt l 1 = 42
    · rw [if_pos h]
      obtain ⟨t, rfl⟩ := two_len h
      show (match closeS t with | none => _ | some r => _ : List (Nat × Nat) × List Nat × Bool).2.1 <:+ _
      cases hc : closeS t with
      | none => exact List.nil_suffix
      | some r =>
        have h1 := closeS_suf _ _ hc
        exact (commF_suf f r).trans (h1.trans ((List.suffix_cons 42 t).trans (List.suffix_cons 47 (42 :: t))))
    · rw [if_neg h]; exact List.suffix_refl _
theorem commS_suf (l : List Nat) : (commS l).2.1 <:+ l := commF_suf _ l
theorem infoTk : (Tryd.prog.info? 29).map (fun i => (i.zero, i.size, i.bytes)) = some (some (.agg #[.int .i64 0, .int .i64 0, .int .i64 0, .int .i64 0, .bool false, .string ⟨#[]⟩]), 6, 56) := by kernel_rfl
/-- What a slice that is the call's own looks like. -/
theorem row_form {w : World} {base : Nat} {e : TypeId} {size : Nat} {v : Value} {n : Nat} {xs : List Value} (h : w.ownsRow base e size v n xs) : ∃ a c, v = .slice a n c := by
  rcases h.2 with ⟨rfl, rfl⟩ | ⟨g, cap, cur, rfl, _⟩
  · exact ⟨none, 0, rfl⟩
  · exact ⟨_, _, rfl⟩
/-- The loop of Tokens. -/
def TRel (b : Nat) (s : ByteArray) (l : List Nat) (W : World) (ov : Value) (w : World) : Prop :=
  ∃ ov' r cv o acc cacc, ov' = ov ∧ SR b s r cv o w ∧ w.ownsRow (b + 1) 29 6 ov acc.length (cellsT s.size acc) ∧ w.ownsRow (b + 1) 76 2 cv cacc.length (cellsP s.size cacc) ∧ (ov.ownBlock = none ∨ ov.ownBlock ≠ cv.ownBlock) ∧ Below b W w ∧
    Hid (∀ out cs op, TokR out r cs op → TokR (acc ++ out) l (cacc ++ cs) (o || op)) ∧ acc.length + cacc.length + r.length ≤ l.length
/-- A round: comments, a token. -/
theorem tok_more {l r : List Nat} {acc : List Tp} {cacc : List (Nat × Nat)} {o : Bool} (H : ∀ out cs op, TokR out r cs op → TokR (acc ++ out) l (cacc ++ cs) (o || op)) {c : Nat} {t : List Nat} (h : (commS r).2.1 = c :: t) :
    ∀ out cs op, TokR out (nextS c t).2.1 cs op → TokR ((acc ++ [⟨(nextS c t).1, blen (c :: t), blen (nextS c t).2.1⟩]) ++ out) l ((cacc ++ (commS r).1) ++ cs) (((o || (commS r).2.2) || (nextS c t).2.2) || op) := by
  intro out cs op ho
  have := H (⟨(nextS c t).1, blen (c :: t), blen (nextS c t).2.1⟩ :: out) ((commS r).1 ++ cs) ((commS r).2.2 || ((nextS c t).2.2 || op)) ⟨c, t, cs, op, h, rfl, ho, rfl, rfl⟩
  rw [List.append_assoc, List.append_assoc, Bool.or_assoc, Bool.or_assoc]
  exact this
theorem tok_last {l r : List Nat} {acc : List Tp} {cacc : List (Nat × Nat)} {o : Bool} (H : ∀ out cs op, TokR out r cs op → TokR (acc ++ out) l (cacc ++ cs) (o || op)) (h : (commS r).2.1 = []) : TokR acc l (cacc ++ (commS r).1) (o || (commS r).2.2) := by
  have := H [] (commS r).1 (commS r).2.2 ⟨h, rfl, rfl⟩
  rwa [List.append_nil] at this

set_option maxHeartbeats 8000000 in
set_option maxRecDepth 100000 in
theorem tokensL (s : ByteArray) (l : List Nat) (w : World) (hd : s.data.toList = encs l) (hl : ∀ c ∈ l, Cp c) (hz : s.size ≤ 1073741824) :
    Calls Tryd.prog 31 #[.string s] w fun e w' => ∃ ov cv op acc cacc, e = .returned (.tuple #[ov, cv, .bool op]) ∧ TokR acc l cacc op ∧ w'.ownsRow (w.heap.size + 1) 29 6 ov acc.length (cellsT s.size acc) ∧
      w'.ownsRow (w.heap.size + 1) 76 2 cv cacc.length (cellsP s.size cacc) ∧ Below w.heap.size w w' := by
  obtain ⟨i0, hi, hz0, hz1, hz2⟩ := info_parts infoTk
  have hll : l.length ≤ 1073741824 := by have := encs_len_le l; rw [← size_of hd] at this; omega
  have START := Lib.hid (show TRel w.heap.size s l w (.slice none 0 0) (w.alloc (.cells #[.string s, .int .i64 0, .slice none 0 0, .bool false] 43)) from
    ⟨.slice none 0 0, l, .slice none 0 0, false, [], [], rfl, ⟨0, ⟨by rw [List.drop_zero]; exact hd, Nat.zero_le _, hl, by omega⟩, heap_alloc_new _ _⟩, World.ownsRow_nil _ _ _ _, World.ownsRow_nil _ _ _ _, .inl rfl, (Below.refl _ _).alloc (Nat.le_refl _) _,
      Lib.hid (fun out cs op h => by rw [Bool.false_or]; exact h), by simp⟩)
  clear hd hl
  go_enter Tryd.func31, Tryd.ntmps31
  go_wp2_with fail
  go_loopw [6] (fun ov wr => TRel w.heap.size s l w ov wr) (fun _ wr => leftOf w.heap.size s wr)
  case atStart => exact START.out
  case round =>
    obtain ⟨ov, r, cv, o, acc, cacc, rfl, hr, hov, hcv, hne, hB, hH, hlen⟩ := hrel
    clear START
    have hlt := hr.lt
    have C := Lib.hid (commentL w.heap.size s r cv o _ (w.heap.size + 1) cacc.length cacc hr (by omega) (by omega) hcv (by omega))
    have HOV := Lib.hid hov
    have HCV := Lib.hid hcv
    have HNE := Lib.hid hne
    have HB := Lib.hid hB
    have HL := Lib.hid hlen
    have HR := Lib.hid hr
    clear hr hov hcv hne hB hlen
    go_wp2_with fail
    refine (C.out).mono ?_
    rintro e w1 ⟨rfl, cv1, h1, hcv1, f1, n1⟩
    have HOV1 := Lib.hid (row_fc HOV.out f1 (by omega) HNE.out)
    have HNE1 := Lib.hid (show ov.ownBlock = none ∨ ov.ownBlock ≠ cv1.ownBlock by
      rcases n1 with n1 | ⟨g, n1, hg⟩
      · rw [n1]; exact HNE.out
      · right
        intro e
        rw [n1] at e
        have := (HOV.out.lt g e).2
        omega)
    have HB1 := Lib.hid (HB.out.trans (f1.below (Nat.le_refl _) HB.out.size (fun k hk => by have := (HCV.out.lt k hk).1; omega)))
    have HCV1 := Lib.hid hcv1
    have H1 := Lib.hid h1
    have hcl := commS_len r
    clear hcv1 f1 n1 h1
    have hlt1 := H1.out.lt
    obtain ⟨k, hA, d1⟩ := H1.out.c1
    have KB := Lib.hid (blen_at hA)
    have hkz : k ≤ s.size := hA.le
    clear hA
    cases hr1 : (commS r).2.1 with
    | nil =>
      have N := Lib.hid (nextL_nil w.heap.size s cv1 _ w1 (by rw [← hr1]; exact H1.out))
      rw [show tkV ⟨0, 0, false, []⟩ 0 0 = .agg #[.int .i64 0, .int .i64 0, .int .i64 0, .int .i64 0, .bool false, .string ⟨#[]⟩] from rfl] at N
      have TL := Lib.hid (tok_last hH.out hr1)
      clear hr1
      go_wp2_with fail
      refine (N.out).mono ?_
      rintro e w2 ⟨rfl, h2, f2⟩
      have e2 := h2.c2
      have e3 := h2.c3
      have e2A := (h2.alloc (.cells #[.int .i64 0, .int .i64 0, .int .i64 0, .int .i64 0, .bool false, .string ⟨#[]⟩] 29)).c2
      have e3A := (h2.alloc (.cells #[.int .i64 0, .int .i64 0, .int .i64 0, .int .i64 0, .bool false, .string ⟨#[]⟩] 29)).c3
      go_wp2_with fail
      go_quiet (fail)
      go_wp2_with fail
      refine bodyPost_ret (results_tmp3 rfl _ _ _) rfl ?_
      have hfr := (f2.alloc (.cells #[.int .i64 0, .int .i64 0, .int .i64 0, .int .i64 0, .bool false, .string ⟨#[]⟩] 29)).trans (Fr.drewN w.heap.size nq _)
      refine ⟨_, _, _, acc, cacc ++ (commS r).1, rfl, TL.out, row_fr HOV1.out hfr (by omega), ?_, HB1.out.trans (hfr.below (Nat.le_refl _) HB1.out.size)⟩
      rw [List.length_append]
      exact row_fr HCV1.out hfr (by omega)
    | cons c t =>
      have N := Lib.hid (nextL w.heap.size s c t cv1 _ w1 (by rw [← hr1]; exact H1.out))
      have TM := Lib.hid (tok_more hH.out hr1)
      have hkind := nextS_kind c t
      have hsuf := nextS_suf c t
      rw [hr1] at hcl KB
      obtain ⟨tk, htk⟩ : ∃ x, (nextS c t).1 = x := ⟨_, rfl⟩
      obtain ⟨r2, hr2⟩ : ∃ x, (nextS c t).2.1 = x := ⟨_, rfl⟩
      obtain ⟨o2, ho2⟩ : ∃ x, (nextS c t).2.2 = x := ⟨_, rfl⟩
      rw [htk, hr2, ho2] at N TM
      rw [htk] at hkind
      rw [hr2] at hsuf
      rw [tkV_agg] at N
      have t0 : ((tk.kind : Int) == 0) = false := beq_eq_false_iff_ne.2 (by omega)
      have SUF := Lib.hid hsuf
      have HC1 := Lib.hid hr1
      clear htk hr2 ho2 hkind hsuf hr1
      go_wp2_with fail
      refine (N.out).mono ?_
      rintro e w2 ⟨rfl, h2, f2⟩
      obtain ⟨k2, hA2, g1⟩ := h2.c1
      have KE := Lib.hid (blen_at hA2)
      have hk2z : k2 ≤ s.size := hA2.le
      clear hA2
      have g1A : ∀ x, (w2.alloc x).cell? ⟨w.heap.size, 1, none⟩ = some (.int .i64 (k2 : Int)) := fun x => by
        rw [Below.cell ((Below.refl w2.heap.size w2).alloc (Nat.le_refl _) x) (World.block_lt_of_cell? _ _ g1)]; exact g1
      have H2 := Lib.hid h2
      have F2 := Lib.hid f2
      clear h2 f2
      go_upto_region 8 with fail
      go_region
      obtain ⟨R, hR⟩ : ∃ R, w2.heap.size = R := ⟨_, rfl⟩
      obtain ⟨w3, hw3⟩ : ∃ x, (w2.alloc (.cells #[.int .i64 (tk.kind : Int), .int .i64 (k : Int), .int .i64 (k2 : Int), .int .i64 (tk.unit : Int), .bool tk.id, .string (strOf tk.text)] 29)).drew = x := ⟨_, rfl⟩
      have HB3 := Lib.hid (show w3.heap[R]? = some (.cells #[.int .i64 (tk.kind : Int), .int .i64 (k : Int), .int .i64 (k2 : Int), .int .i64 (tk.unit : Int), .bool tk.id, .string (strOf tk.text)] 29 (0, 0)) by
        rw [← hw3, ← hR]; exact heap_alloc_new w2 _)
      have F3 := Lib.hid (show Fr w.heap.size w1 w3 by rw [← hw3]; exact (F2.out.alloc _).drew')
      have H3 := Lib.hid (show SR w.heap.size s r2 cv1 ((o || (commS r).2.2) || o2) w3 by rw [← hw3]; exact H2.out.alloc _)
      rw [hR, hw3]
      have q0 : w3.cell? ⟨R, 0, none⟩ = some (.int .i64 (tk.kind : Int)) := by rw [Lib.cell_of_heap HB3.out]; rfl
      have q1 : w3.cell? ⟨R, 1, none⟩ = some (.int .i64 (k : Int)) := by rw [Lib.cell_of_heap HB3.out]; rfl
      have q2 : w3.cell? ⟨R, 2, none⟩ = some (.int .i64 (k2 : Int)) := by rw [Lib.cell_of_heap HB3.out]; rfl
      have q3 : w3.cell? ⟨R, 3, none⟩ = some (.int .i64 (tk.unit : Int)) := by rw [Lib.cell_of_heap HB3.out]; rfl
      have q4 : w3.cell? ⟨R, 4, none⟩ = some (.bool tk.id) := by rw [Lib.cell_of_heap HB3.out]; rfl
      have q5 : w3.cell? ⟨R, 5, none⟩ = some (.string (strOf tk.text)) := by rw [Lib.cell_of_heap HB3.out]; rfl
      have HOV3 := Lib.hid (row_fr HOV1.out F3.out (by omega))
      have HCV3 := Lib.hid (row_fr HCV1.out F3.out (by omega))
      have HB4 := Lib.hid (HB1.out.trans (F3.out.below (Nat.le_refl _) HB1.out.size))
      have hsz3 : w.heap.size + 1 ≤ w3.heap.size := by have := H3.out.lt; omega
      have hnb : acc.length + 1 ≤ 1073741824 := by
        have h1 := HL.out
        rw [List.length_cons] at hcl; omega
      clear hw3 g1 g1A
      go_wp2_with (at_builtin; refine wpList_append_lies _ rfl _ _ 47 rfl (w.heap.size + 1) 29 i0 _ 6 56 Tryd.underlying47 hi hz0 hz1 hz2 rfl (by decide) ov acc.length (cellsT s.size acc) rfl (HOV3.out.alloc _) ⟨w3.heap.size, 0, none⟩ 1 1 [.int .i64 (tk.kind : Int), .int .i64 (k : Int), .int .i64 (k2 : Int), .int .i64 (tk.unit : Int), .bool tk.id, .string (strOf tk.text)] rfl rfl (World.news_of_block (heap_alloc_new w3 _)) (fun u hu => by simp at hu; rcases hu with rfl | rfl | rfl | rfl | rfl | rfl <;> rfl) (by decide) (by unfold maxLen; omega) (by omega) (by simp; omega) (w3.heap.size + 1) (by simp) ?_; intro g cap w4 hown4 hgrow hat hlt4)
      have S4 := Lib.hid ((H3.out.alloc _).grown hgrow (row_ne HOV3.out (by omega)))
      have hown5 : w4.ownsRow (w.heap.size + 1) 29 6 (.slice (some ⟨g, 0, none⟩) (acc.length + 1) cap) (acc ++ [(⟨tk, blen (c :: t), blen r2⟩ : Tp)]).length (cellsT s.size (acc ++ [(⟨tk, blen (c :: t), blen r2⟩ : Tp)])) := by
        rw [List.length_append, cellsT_append]
        have h1 := KB.out
        have h2 := KE.out
        have h3 : cellsT s.size [(⟨tk, blen (c :: t), blen r2⟩ : Tp)] = [.int .i64 (tk.kind : Int), .int .i64 (k : Int), .int .i64 (k2 : Int), .int .i64 (tk.unit : Int), .bool tk.id, .string (strOf tk.text)] := by
          rw [h1, h2]; rfl
        rw [h3]
        exact hown4
      have hcv5 : w4.ownsRow (w.heap.size + 1) 76 2 cv1 (cacc ++ (commS r).1).length (cellsP s.size (cacc ++ (commS r).1)) := by
        rw [List.length_append]
        refine (HCV3.out.alloc _).kept hgrow ?_
        rcases HNE1.out with h1 | h1
        · rw [h1]
          cases cv1.ownBlock with
          | none => exact .inl rfl
          | some x => exact .inr (by simp)
        · exact .inr (fun e => h1 e.symm)
      have hne5 : Value.ownBlock (.slice (some ⟨g, 0, none⟩) (acc.length + 1) cap) ≠ cv1.ownBlock := by
        intro e
        have e' : some g = cv1.ownBlock := e
        rcases hat with h1 | h1
        · rcases HNE1.out with h2 | h2
          · rw [h2] at h1; cases h1
          · exact h2 (h1.trans e')
        · have := (HCV3.out.lt g e'.symm).2
          omega
      have hB5 : Below w.heap.size w w4 := (HB4.out.alloc (by have := HB4.out.size; omega) _).grown hgrow (by have := HB4.out.size; simp; omega) (fun x hx => by have := (HOV3.out.lt x hx).1; omega)
      go_roundw
      case rel =>
        refine ⟨_, r2, cv1, _, _, _, rfl, S4.out, hown5, hcv5, .inr hne5, hB5, TM, ?_⟩
        have h1 := HL.out
        have h2 := SUF.out.length_le
        simp only [List.length_append, List.length_cons, List.length_nil] at hcl ⊢
        omega
      case measure =>
        rw [S4.out.left, HR.out.left]
        have h1 := suf_enc SUF.out
        have h2 : (commS r).2.1 <:+ r := commS_suf r
        rw [HC1.out] at h2
        exact Nat.lt_of_le_of_lt h1 (Nat.lt_of_lt_of_le (encs_lt c t) (suf_enc h2))
end Go.Proofs.YtmgkccnfhkcncaaDoor
