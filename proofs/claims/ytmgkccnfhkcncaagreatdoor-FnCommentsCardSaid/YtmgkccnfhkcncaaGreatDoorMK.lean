/-
  Plain Lean: the text of a string, and of an identifier, is what its escapes mean. Plain Lean: every token takes at least one code point, and leaves a rest of the text. Plain Lean, no program: the comments of a plain text that is not left open are the reference's.
-/
import Derived.Test.YtmgkccnfhkcncaaGreatDoorMG
import Derived.Test.YtmgkccnfhkcncaaGreatDoorSNd
import Derived.Test.YtmgkccnfhkcncaaGreatDoorSpecNum
import Derived.Test.YtmgkccnfhkcncaaGreatDoorMR
namespace Go.Proofs.YtmgkccnfhkcncaaGreatDoor
open Go

theorem ident_conts {c : Nat} {t : List Nat} (h : identZ (c : Int) (cpAt t 0) (cpAt t 1) = true) : conts c = true ∨ (c = 92 ∧ escOk t = true) := by
  unfold identZ at h
  by_cases h45 : (c : Int) = 45
  · left; have : c = 45 := by omega
    subst this; rfl
  · rw [if_neg h45, escZ_ok, ss_nat] at h
    rcases Bool.or_eq_true_iff.1 h with h | h
    · left
      have h : (97 ≤ c ∧ c ≤ 122) ∨ (65 ≤ c ∧ c ≤ 90) ∨ c = 95 ∨ 128 ≤ c := of_decide_eq_true h
      exact decide_eq_true (by omega)
    · right; exact of_decide_eq_true h
end Go.Proofs.YtmgkccnfhkcncaaGreatDoor

namespace Go.Proofs.YtmgkccnfhkcncaaGreatDoor
open Go

theorem quotS_suf (q : Nat) (hq : q = 34 ∨ q = 39) : ∀ (n : Nat) (l : List Nat), l.length ≤ n → (quotS q l).2.2.1 <:+ l
  | _, [], _ => List.suffix_refl _
  | 0, _ :: _, h => absurd h (by simp)
  | n + 1, c :: t, h => by
    simp only [List.length_cons] at h
    by_cases h1 : c = q
    · subst h1; rw [quotS_end]; exact List.suffix_cons _ _
    · cases h2 : isNl c with
      | true => rw [quotS_nl q c t h1 h2]; exact List.suffix_refl _
      | false =>
        by_cases h3 : c = 92
        · subst h3
          match t, h with
          | [], _ => rw [quotS_last q (by omega)]; exact List.suffix_cons _ _
          | d :: u, h =>
            simp only [List.length_cons] at h
            cases hd : isNl d with
            | true =>
              rw [quotS_cont q d u (by omega) hd]
              have := nlS_len (d :: u)
              simp only [List.length_cons] at this
              exact ((quotS_suf q hq n (nlS (d :: u)) (by omega)).trans (nlS_suf _)).trans (List.suffix_cons _ _)
            | false =>
              rw [quotS_esc q d u (by omega) hd]
              have := escS_len (d :: u)
              simp only [List.length_cons] at this
              exact ((quotS_suf q hq n (escS (d :: u)).2.1 (by omega)).trans (escS_suf _)).trans (List.suffix_cons _ _)
        · rw [quotS_plain q c t h1 h2 h3]
          exact (quotS_suf q hq n t (by omega)).trans (List.suffix_cons _ _)
theorem badS_suf : ∀ (n : Nat) (l : List Nat), l.length ≤ n → (badS l).1 <:+ l
  | _, [], _ => List.suffix_refl _
  | 0, _ :: _, h => absurd h (by simp)
  | n + 1, c :: t, h => by
    simp only [List.length_cons] at h
    by_cases h1 : c = 41
    · subst h1; rw [badS_end]; exact List.suffix_cons _ _
    · by_cases h2 : c = 92 ∧ escOk t = true
      · obtain ⟨rfl, h2⟩ := h2
        rw [badS_esc t h2]
        have := escS_len t
        exact ((badS_suf n (escS t).2.1 (by omega)).trans (escS_suf t)).trans (List.suffix_cons _ _)
      · rw [badS_other c t h1 h2]
        exact (badS_suf n t (by omega)).trans (List.suffix_cons _ _)
theorem urlS_suf : ∀ (n : Nat) (l : List Nat), l.length ≤ n → (urlS l).2.2.1 <:+ l
  | _, [], _ => List.suffix_refl _
  | 0, _ :: _, h => absurd h (by simp)
  | n + 1, c :: t, h => by
    simp only [List.length_cons] at h
    by_cases h1 : c = 41
    · subst h1; rw [urlS_end]; exact List.suffix_cons _ _
    · cases h2 : isWs c with
      | true =>
        have hsp := spS_suf t
        cases hs : spS t with
        | nil => rw [urlS_ws_nil c t h2 hs]; exact List.nil_suffix
        | cons d u =>
          rw [hs] at hsp
          by_cases hd : d = 41
          · subst hd; rw [urlS_ws_end c t u h2 hs]; exact ((List.suffix_cons _ _).trans hsp).trans (List.suffix_cons _ _)
          · rw [urlS_ws_bad c t d u h2 hs hd]; exact ((badS_suf _ _ (Nat.le_refl _)).trans hsp).trans (List.suffix_cons _ _)
      | false =>
        cases hs : spoils c t with
        | true => rw [urlS_spoils c t h1 h2 hs]; exact badS_suf _ _ (Nat.le_refl _)
        | false =>
          by_cases h3 : c = 92
          · subst h3
            have het : escOk t = true := by
              cases he : escOk t with
              | true => rfl
              | false => exact absurd (spoils_iff.2 (Or.inr (Or.inr (Or.inr (Or.inr ⟨rfl, he⟩))))) (by rw [hs]; decide)
            rw [urlS_esc t het]
            have h4 := escS_len t
            exact ((urlS_suf n (escS t).2.1 (by omega)).trans (escS_suf t)).trans (List.suffix_cons _ _)
          · rw [urlS_plain c t h1 h2 hs h3]
            exact (urlS_suf n t (by omega)).trans (List.suffix_cons _ _)
theorem nameS_proper {c : Nat} {t : List Nat} (h : conts c = true ∨ (c = 92 ∧ escOk t = true)) : (nameS (c :: t)).2.1 <:+ t := by
  by_cases h1 : conts c = true
  · rw [nameS_conts c t h1]; exact nameS_suf t
  · rcases h with h | ⟨rfl, h⟩
    · exact absurd h h1
    · rw [nameS_esc t h]; exact (nameS_suf _).trans (escS_suf t)
theorem namedS_suf {c : Nat} {t : List Nat} (h : identZ (c : Int) (cpAt t 0) (cpAt t 1) = true) : (namedS (c :: t)).2.1 <:+ t := by
  have hn := nameS_proper (ident_conts h)
  cases hr : (nameS (c :: t)).2.1 with
  | nil => rw [namedS_nil hr]; exact List.nil_suffix
  | cons d u =>
    rw [hr] at hn
    by_cases hd : d = 40
    · subst hd
      by_cases hu : isUrlC (nameS (c :: t)).1 = true ∧ cpAt (spS u) 0 ≠ 34 ∧ cpAt (spS u) 0 ≠ 39
      · rw [namedS_url hr hu _ rfl]
        exact (((urlS_suf _ _ (Nat.le_refl _)).trans (spS_suf u)).trans (List.suffix_cons _ _)).trans hn
      · rw [namedS_fun hr hu]; exact (List.suffix_cons _ _).trans hn
    · rw [namedS_ident hr hd]; exact hn
theorem numS_proper {c : Nat} {t : List Nat} (h : countZ (c : Int) (cpAt t 0) (cpAt t 1) = true) : (numS (c :: t)).1 <:+ t := by
  have step : ∀ l, (pointS (dgS (signS (c :: t)))).1 <:+ l → (numS (c :: t)).1 <:+ l := fun l hl => (expS_suf _).trans hl
  apply step
  by_cases h1 : (c : Int) = 43 ∨ (c : Int) = 45
  · rw [signS_yes (by rw [cpAt_zero_cons]; exact h1), List.tail_cons]
    exact (pointS_suf _).trans (dgS_suf t)
  · unfold countZ at h
    rw [if_neg h1] at h
    rw [signS_no (by rw [cpAt_zero_cons]; exact h1), dgS_cons]
    cases hd : isDg c with
    | true => rw [if_pos rfl]; exact (pointS_suf _).trans (dgS_suf t)
    | false =>
      rw [if_neg (by decide)]
      rw [dg_nat, hd, Bool.false_or, Bool.and_eq_true, decide_eq_true_iff] at h
      rw [pointS_yes (by rw [cpAt_zero_cons]; exact h.1) (by rw [cpAt_succ_cons]; exact h.2), List.tail_cons]
      exact dgS_suf t
theorem numericS_suf {c : Nat} {t : List Nat} (h : countZ (c : Int) (cpAt t 0) (cpAt t 1) = true) : (numericS (c :: t)).2.1 <:+ t := by
  have hn := numS_proper h
  unfold numericS
  split
  · exact (nameS_suf _).trans hn
  · split
    · exact (List.tail_suffix _).trans hn
    · exact hn
theorem nextS_suf (c : Nat) (t : List Nat) : (nextS c t).2.1 <:+ t := by
  unfold nextS
  split
  · exact spS_suf t
  split
  · rename_i hq; exact quotS_suf c hq _ t (Nat.le_refl _)
  split
  · exact nameS_suf t
  split
  · rename_i h; exact numericS_suf h
  split
  · exact List.drop_suffix _ _
  split
  · rename_i h; exact namedS_suf h
  split
  · exact List.drop_suffix _ _
  split
  · exact nameS_suf t
  · exact List.suffix_refl _
theorem closeS_suf : ∀ (l r : List Nat), closeS l = some r → r <:+ l
  | [], _, h => by simp [closeS] at h
  | c :: t, r, h => by
    unfold closeS at h
    by_cases h1 : c = 42 ∧ t.head? = some 47
    · rw [if_pos h1] at h
      obtain rfl := Option.some.inj h
      exact (List.tail_suffix t).trans (List.suffix_cons _ _)
    · rw [if_neg h1] at h
      exact (closeS_suf t r h).trans (List.suffix_cons _ _)
end Go.Proofs.YtmgkccnfhkcncaaGreatDoor

namespace Go.Proofs.YtmgkccnfhkcncaaGreatDoor
open Go

/-! ### all comments -/
def allF : Nat → List UInt8 → List (Nat × Nat)
  | 0, _ => []
  | f + 1, r => if (nextB r).2.2.1 = 0 then (nextB r).1 else (nextB r).1 ++ allF f (nextB r).2.2.2
theorem allF_more : ∀ (f g : Nat) (r : List UInt8), r.length < f → r.length < g → allF f r = allF g r
  | 0, _, _, h, _ => absurd h (by omega)
  | _ + 1, 0, _, _, h => absurd h (by omega)
  | f + 1, g + 1, r, hf, hg => by
    unfold allF
    by_cases h : (nextB r).2.2.1 = 0
    · rw [if_pos h, if_pos h]
    · have := nextB_shorter h
      rw [if_neg h, if_neg h, allF_more f g _ (by omega) (by omega)]
def allC (r : List UInt8) : List (Nat × Nat) := allF (r.length + 1) r
theorem allC_def (r : List UInt8) : allC r = if (nextB r).2.2.1 = 0 then (nextB r).1 else (nextB r).1 ++ allC (nextB r).2.2.2 := by
  unfold allC
  conv => lhs; unfold allF
  by_cases h : (nextB r).2.2.1 = 0
  · rw [if_pos h, if_pos h]
  · have := nextB_shorter h
    rw [if_neg h, if_neg h, allF_more r.length ((nextB r).2.2.2.length + 1) _ (by omega) (by omega)]
theorem run_all (s : ByteArray) : ∀ (ts : List Tq) (cs : List (Nat × Nat)) (r : List UInt8), RunB s ts cs r → cs = absC s.size (allC r)
  | [], cs, r, h => by
    rw [h.2, allC_def, if_pos h.1]
  | t :: ts, cs, r, h => by
    obtain ⟨cs', h1, h2, -, -, -, -, h3, rfl⟩ := h
    rw [allC_def, if_neg (by rw [← h1]; exact h2), absC_app, run_all s ts cs' _ h3]
theorem allC_nil : allC [] = [] := by rw [allC_def, nextB_nil]; rfl
theorem allC_cmt {r R : List UInt8} (h : startC r) (hc : cmtB (tlB (tlB r)) = some R) : allC r = (r.length, R.length) :: allC R := by
  rw [allC_def r, allC_def R, nextB_cmt h hc]
  dsimp only
  split
  · rfl
  · rfl
theorem allC_open {r : List UInt8} (h : startC r) (hc : cmtB (tlB (tlB r)) = none) : allC r = [] := by
  rw [allC_def, nextB_open h hc]; rfl
theorem allC_tok {r : List UInt8} (h : r ≠ []) (h1 : ¬ spB (hdB r) = true) (h2 : ¬ startC r) : allC r = allC (tokB r).2 := by
  have h3 := (tokB_kind r).1
  rw [allC_def, nextB_tok h h1 h2]
  dsimp only
  rw [if_neg (by omega), List.nil_append]
theorem allC_wc : ∀ (n : Nat) (r : List UInt8), r.length ≤ n → (wcB r).1 ++ allC (wcB r).2 = allC r
  | 0, r, h => by
    obtain rfl : r = [] := List.eq_nil_of_length_eq_zero (by omega)
    rw [wcB_stop (by decide) (fun h => absurd h.1 (by decide))]
    rfl
  | n + 1, r, h => by
    by_cases h1 : spB (hdB r) = true
    · rw [wcB_sp h1]
      conv => rhs; rw [allC_def, nextB_sp h1]
      rfl
    · by_cases h2 : startC r
      · cases hc : cmtB (tlB (tlB r)) with
        | none => rw [wcB_open h2 hc, allC_open h2 hc, allC_nil]; rfl
        | some R =>
          have h3 := start_lt h2 hc
          rw [wcB_cmt h2 hc, allC_cmt h2 hc]
          dsimp only
          rw [List.cons_append, allC_wc n R (by omega)]
      · rw [wcB_stop h1 h2]; rfl
theorem allC_sp {r : List UInt8} (h : spB (hdB r) = true) : allC r = allC (tlB r) := by
  rw [← allC_wc _ (tlB r) (Nat.le_refl _)]
  conv => lhs; rw [allC_def, nextB_sp h]
  rfl

/-! ### on code points -/
theorem cmtB_encs : ∀ t : List Nat, (∀ c ∈ t, Cp c) → cmtB (encs t) = (closeS t).map encs
  | [], _ => cmtB_none rfl
  | c :: t, h => by
    obtain ⟨hc, ht⟩ := cps_tl h
    have e1 := hd_encs c t hc
    have e2 := tl_encs c t hc
    have ih := cmtB_encs t ht
    unfold closeS
    by_cases h1 : c = 42 ∧ t.head? = some 47
    · rw [if_pos h1]
      obtain ⟨rfl, h2⟩ := h1
      match t, h2 with
      | d :: u, h2 =>
        obtain rfl : d = 47 := by simpa using h2
        obtain ⟨hd, hu⟩ := cps_tl ht
        have e3 := hd_encs 47 u hd
        have e4 := tl_encs 47 u hd
        rw [cmtB_stop e1 (by rw [e2, e3]; rfl), e2, e4]
        rfl
    · rw [if_neg h1]
      by_cases h42 : c = 42
      · subst h42
        have h2 : hdB (encs t) ≠ 47 := by
          rw [hdB_encs t ht]
          cases t with
          | nil => decide
          | cons d u =>
            rw [cpAt_zero_cons]
            intro e
            exact h1 ⟨rfl, by simp; omega⟩
        rw [cmtB_star e1 (by rw [e2]; exact h2), e2, ih]
      · rw [cmtB_over (by rw [e1]; omega) (by rw [e1]; omega), e2, ih]
theorem start_encs (l : List Nat) (h : ∀ c ∈ l, Cp c) : startC (encs l) ↔ (cpAt l 0 = 47 ∧ cpAt l 1 = 42) := by
  unfold startC
  rw [hdB_encs l h, tlB_encs l h, hdB_encs l.tail (fun d hd => h d (List.mem_of_mem_tail hd))]
  have : cpAt l.tail 0 = cpAt l 1 := by
    cases l with
    | nil => rfl
    | cons c t => rfl
  rw [this]
theorem closeS_cp (t r : List Nat) (h : ∀ c ∈ t, Cp c) (hc : closeS t = some r) : ∀ c ∈ r, Cp c := fun c hcr => h c ((closeS_suf t r hc).subset hcr)
theorem commF_all : ∀ (f : Nat) (l : List Nat), (∀ c ∈ l, Cp c) → (commF f l).2.2 = false → allC (encs l) = (commF f l).1 ++ allC (encs (commF f l).2.1)
  | 0, l, _, _ => rfl
  | f + 1, l, h, ho => by
    unfold commF at ho ⊢
    by_cases h1 : cpAt l 0 = 47 ∧ cpAt l 1 = 42
    · have h2 := (start_encs l h).2 h1
      rw [if_pos h1] at ho ⊢
      obtain ⟨t, rfl⟩ := two_len h1
      obtain ⟨c1, ht1⟩ := cps_tl h
      obtain ⟨c2, ht⟩ := cps_tl ht1
      have e2 : tlB (tlB (encs (47 :: 42 :: t))) = encs t := by rw [tl_encs _ _ c1, tl_encs _ _ c2]
      have e3 := cmtB_encs t ht
      cases hc : closeS t with
      | none =>
        exfalso
        have ho' : (match closeS t with | none => ([(blen (47 :: 42 :: t), 0)], [], true) | some r => ((blen (47 :: 42 :: t), blen r) :: (commF f r).1, (commF f r).2.1, (commF f r).2.2) : List (Nat × Nat) × List Nat × Bool).2.2 = false := ho
        rw [hc] at ho'
        cases ho'
      | some r =>
        have ho' : (match closeS t with | none => ([(blen (47 :: 42 :: t), 0)], [], true) | some r => ((blen (47 :: 42 :: t), blen r) :: (commF f r).1, (commF f r).2.1, (commF f r).2.2) : List (Nat × Nat) × List Nat × Bool).2.2 = false := ho
        show allC (encs (47 :: 42 :: t)) = (match closeS t with | none => ([(blen (47 :: 42 :: t), 0)], [], true) | some r => ((blen (47 :: 42 :: t), blen r) :: (commF f r).1, (commF f r).2.1, (commF f r).2.2) : List (Nat × Nat) × List Nat × Bool).1 ++ allC (encs (match closeS t with | none => ([(blen (47 :: 42 :: t), 0)], [], true) | some r => ((blen (47 :: 42 :: t), blen r) :: (commF f r).1, (commF f r).2.1, (commF f r).2.2) : List (Nat × Nat) × List Nat × Bool).2.1)
        rw [hc] at ho' ⊢
        rw [hc] at e3
        dsimp only at ho' ⊢
        rw [allC_cmt h2 (R := encs r) (by rw [e2, e3]; rfl), commF_all f r (closeS_cp t r ht hc) ho']
        rfl
    · rw [if_neg h1]
      rfl
theorem spS_all : ∀ (t : List Nat), (∀ c ∈ t, Cp c) → allC (encs t) = allC (encs (spS t))
  | [], _ => rfl
  | c :: t, h => by
    obtain ⟨hc, ht⟩ := cps_tl h
    rw [spS_cons]
    by_cases h1 : isWs c = true
    · rw [if_pos h1, allC_sp (r := encs (c :: t)) (by rw [hd_encs c t hc, sp_nat]; exact h1), tl_encs c t hc]
      exact spS_all t ht
    · rw [if_neg h1]
theorem nc_sc (t : List Nat) (h : ∀ c ∈ t, Cp c) : (ncB (hdB (encs t)) = true ∨ vescB (encs t) = true) ↔ (scB (cpAt t 0) || escZ (cpAt t 0) (cpAt t 1)) = true := by
  cases t with
  | nil => decide
  | cons c t =>
    have hc := (cps_tl h).1
    rw [hd_encs c t hc, vescB_encs c t h, nc_nat c hc.1, cpAt_zero_cons, cpAt_succ_cons, escZ_ok, Bool.or_eq_true, sc_nat]
theorem tail2 : ∀ t : List Nat, t.tail.tail = t.drop 2
  | [] => rfl
  | [_] => rfl
  | _ :: _ :: _ => rfl
theorem tail3 : ∀ t : List Nat, t.tail.tail.tail = t.drop 3
  | [] => rfl
  | [_] => rfl
  | [_, _] => rfl
  | _ :: _ :: _ :: _ => rfl
theorem cpAt_tail : ∀ t : List Nat, cpAt t.tail 0 = cpAt t 1
  | [] => rfl
  | _ :: _ => rfl
theorem cpAt_tail2 : ∀ t : List Nat, cpAt t.tail.tail 0 = cpAt t 2
  | [] => rfl
  | [_] => rfl
  | _ :: _ :: _ => rfl
theorem nextS_1 {c : Nat} {t : List Nat} (g0 : ¬ (isWs c = true)) (g1 : c = 34 ∨ c = 39) : nextS c t = (⟨if (quotS c t).1 = true then 36 else 2, 0, false, if (quotS c t).1 = true then (quotS c t).2.1 else []⟩, (quotS c t).2.2.1, (quotS c t).2.2.2) := by
  unfold nextS
  rw [if_neg g0, if_pos g1]
theorem nextS_2 {c : Nat} {t : List Nat} (g0 : ¬ (isWs c = true)) (g1 : ¬ (c = 34 ∨ c = 39)) (g2 : c = 35 ∧ (scB (cpAt t 0) || escZ (cpAt t 0) (cpAt t 1)) = true) : nextS c t = (⟨28, 0, identZ (cpAt t 0) (cpAt t 1) (cpAt t 2), (nameS t).1⟩, (nameS t).2.1, (nameS t).2.2) := by
  unfold nextS
  rw [if_neg g0, if_neg g1, if_pos g2]
theorem nextS_3 {c : Nat} {t : List Nat} (g0 : ¬ (isWs c = true)) (g1 : ¬ (c = 34 ∨ c = 39)) (g2 : ¬ (c = 35 ∧ (scB (cpAt t 0) || escZ (cpAt t 0) (cpAt t 1)) = true)) (g3 : countZ (c : Int) (cpAt t 0) (cpAt t 1) = true) : nextS c t = numericS (c :: t) := by
  unfold nextS
  rw [if_neg g0, if_neg g1, if_neg g2, if_pos g3]
theorem nextS_4 {c : Nat} {t : List Nat} (g0 : ¬ (isWs c = true)) (g1 : ¬ (c = 34 ∨ c = 39)) (g2 : ¬ (c = 35 ∧ (scB (cpAt t 0) || escZ (cpAt t 0) (cpAt t 1)) = true)) (g3 : ¬ (countZ (c : Int) (cpAt t 0) (cpAt t 1) = true)) (g4 : c = 45 ∧ cpAt t 0 = 45 ∧ cpAt t 1 = 62) : nextS c t = (⟨4, 0, false, []⟩, t.drop 2, false) := by
  unfold nextS
  rw [if_neg g0, if_neg g1, if_neg g2, if_neg g3, if_pos g4]
theorem nextS_5 {c : Nat} {t : List Nat} (g0 : ¬ (isWs c = true)) (g1 : ¬ (c = 34 ∨ c = 39)) (g2 : ¬ (c = 35 ∧ (scB (cpAt t 0) || escZ (cpAt t 0) (cpAt t 1)) = true)) (g3 : ¬ (countZ (c : Int) (cpAt t 0) (cpAt t 1) = true)) (g4 : ¬ (c = 45 ∧ cpAt t 0 = 45 ∧ cpAt t 1 = 62)) (g5 : identZ (c : Int) (cpAt t 0) (cpAt t 1) = true) : nextS c t = namedS (c :: t) := by
  unfold nextS
  rw [if_neg g0, if_neg g1, if_neg g2, if_neg g3, if_neg g4, if_pos g5]
theorem nextS_6 {c : Nat} {t : List Nat} (g0 : ¬ (isWs c = true)) (g1 : ¬ (c = 34 ∨ c = 39)) (g2 : ¬ (c = 35 ∧ (scB (cpAt t 0) || escZ (cpAt t 0) (cpAt t 1)) = true)) (g3 : ¬ (countZ (c : Int) (cpAt t 0) (cpAt t 1) = true)) (g4 : ¬ (c = 45 ∧ cpAt t 0 = 45 ∧ cpAt t 1 = 62)) (g5 : ¬ (identZ (c : Int) (cpAt t 0) (cpAt t 1) = true)) (g6 : c = 60 ∧ cpAt t 0 = 33 ∧ cpAt t 1 = 45 ∧ cpAt t 2 = 45) : nextS c t = (⟨5, 0, false, []⟩, t.drop 3, false) := by
  unfold nextS
  rw [if_neg g0, if_neg g1, if_neg g2, if_neg g3, if_neg g4, if_neg g5, if_pos g6]
theorem nextS_7 {c : Nat} {t : List Nat} (g0 : ¬ (isWs c = true)) (g1 : ¬ (c = 34 ∨ c = 39)) (g2 : ¬ (c = 35 ∧ (scB (cpAt t 0) || escZ (cpAt t 0) (cpAt t 1)) = true)) (g3 : ¬ (countZ (c : Int) (cpAt t 0) (cpAt t 1) = true)) (g4 : ¬ (c = 45 ∧ cpAt t 0 = 45 ∧ cpAt t 1 = 62)) (g5 : ¬ (identZ (c : Int) (cpAt t 0) (cpAt t 1) = true)) (g6 : ¬ (c = 60 ∧ cpAt t 0 = 33 ∧ cpAt t 1 = 45 ∧ cpAt t 2 = 45)) (g7 : c = 64 ∧ identZ (cpAt t 0) (cpAt t 1) (cpAt t 2) = true) : nextS c t = (⟨1, 0, false, (nameS t).1⟩, (nameS t).2.1, (nameS t).2.2) := by
  unfold nextS
  rw [if_neg g0, if_neg g1, if_neg g2, if_neg g3, if_neg g4, if_neg g5, if_neg g6, if_pos g7]
theorem nextS_8 {c : Nat} {t : List Nat} (g0 : ¬ (isWs c = true)) (g1 : ¬ (c = 34 ∨ c = 39)) (g2 : ¬ (c = 35 ∧ (scB (cpAt t 0) || escZ (cpAt t 0) (cpAt t 1)) = true)) (g3 : ¬ (countZ (c : Int) (cpAt t 0) (cpAt t 1) = true)) (g4 : ¬ (c = 45 ∧ cpAt t 0 = 45 ∧ cpAt t 1 = 62)) (g5 : ¬ (identZ (c : Int) (cpAt t 0) (cpAt t 1) = true)) (g6 : ¬ (c = 60 ∧ cpAt t 0 = 33 ∧ cpAt t 1 = 45 ∧ cpAt t 2 = 45)) (g7 : ¬ (c = 64 ∧ identZ (cpAt t 0) (cpAt t 1) (cpAt t 2) = true)) : nextS c t = (⟨signK c, 0, false, []⟩, t, false) := by
  unfold nextS
  rw [if_neg g0, if_neg g1, if_neg g2, if_neg g3, if_neg g4, if_neg g5, if_neg g6, if_neg g7]
set_option maxHeartbeats 2000000 in
theorem tokB_encs (c : Nat) (t : List Nat) (h : ∀ d ∈ c :: t, Cp d) (hw : isWs c = false) (ho : (nextS c t).2.2 = false) : (tokB (encs (c :: t))).2 = encs (nextS c t).2.1 := by
  obtain ⟨hc, ht⟩ := cps_tl h
  have e1 := hd_encs c t hc
  have e2 := tl_encs c t hc
  have e3 := hdB_encs t ht
  have ht2 : ∀ d ∈ t.tail, Cp d := fun d hd => ht d (List.mem_of_mem_tail hd)
  have ht3 : ∀ d ∈ t.tail.tail, Cp d := fun d hd => ht2 d (List.mem_of_mem_tail hd)
  have e4 : hdB (tlB (encs t)) = cpAt t 1 := by rw [tlB_encs t ht, hdB_encs _ ht2, cpAt_tail]
  have e5 : hdB (tlB (tlB (encs t))) = cpAt t 2 := by rw [tlB_encs t ht, tlB_encs _ ht2, hdB_encs _ ht3, cpAt_tail2]
  have e6 : tlB (tlB (encs t)) = encs (t.drop 2) := by rw [tlB_encs t ht, tlB_encs _ ht2, tail2]
  have e7 : tlB (tlB (tlB (encs t))) = encs (t.drop 3) := by rw [tlB_encs t ht, tlB_encs _ ht2, tlB_encs _ ht3, tail3]
  have ecnt := cntB_encs (c :: t) h
  have ewd := wouldB_encs (c :: t) h
  have ewt := wouldB_encs t ht
  rw [cpAt_zero_cons, cpAt_succ_cons, cpAt_succ_cons] at ecnt ewd
  have g0 : ¬ isWs c = true := by rw [hw]; decide
  by_cases g1 : c = 34 ∨ c = 39
  · rw [nextS_1 g0 g1] at ho ⊢
    have := strB_encs c g1 _ t (Nat.le_refl _) ht ho
    rw [tokB_str (by rw [e1]; omega), e1, e2, this]
  by_cases g2 : c = 35 ∧ (scB (cpAt t 0) || escZ (cpAt t 0) (cpAt t 1)) = true
  · rw [nextS_2 g0 g1 g2] at ho ⊢
    rw [tokB_hash (by rw [e1]; omega) (by rw [e2]; exact (nc_sc t ht).2 g2.2), e2]
    exact (name_encs t ht ho).1
  by_cases g3 : countZ (c : Int) (cpAt t 0) (cpAt t 1) = true
  · rw [nextS_3 g0 g1 g2 g3] at ho ⊢
    rw [tokB_num (by rw [ecnt]; exact g3), numericB_encs (c :: t) h ho]
  have f3 : cntB (encs (c :: t)) = false := by rw [ecnt]; exact Bool.eq_false_iff.2 g3
  by_cases g4 : c = 45 ∧ cpAt t 0 = 45 ∧ cpAt t 1 = 62
  · rw [nextS_4 g0 g1 g2 g3 g4]
    rw [tokB_cdc f3 (by rw [e1, e2, e3, e4]; exact ⟨by omega, g4.2⟩), e2]
    dsimp only
    rw [e6]
  have f4 : ¬ (hdB (encs (c :: t)) = 45 ∧ hdB (tlB (encs (c :: t))) = 45 ∧ hdB (tlB (tlB (encs (c :: t)))) = 62) := by
    rw [e1, e2, e3, e4]
    exact fun hh => g4 ⟨by omega, hh.2⟩
  by_cases g5 : identZ (c : Int) (cpAt t 0) (cpAt t 1) = true
  · rw [nextS_5 g0 g1 g2 g3 g4 g5] at ho ⊢
    obtain ⟨t0, h1, -⟩ := identB_encs (c :: t) h ho
    rw [tokB_ident (by rw [ewd]; exact g5) f3 f4, h1]
  by_cases g6 : c = 60 ∧ cpAt t 0 = 33 ∧ cpAt t 1 = 45 ∧ cpAt t 2 = 45
  · rw [nextS_6 g0 g1 g2 g3 g4 g5 g6]
    rw [tokB_cdo (by rw [e1, e2, e3, e4, e5]; exact ⟨by omega, g6.2⟩), e2]
    dsimp only
    rw [e7]
  by_cases g7 : c = 64 ∧ identZ (cpAt t 0) (cpAt t 1) (cpAt t 2) = true
  · rw [nextS_7 g0 g1 g2 g3 g4 g5 g6 g7] at ho ⊢
    rw [tokB_at (by rw [e1]; omega) (by rw [e2, ewt]; exact g7.2), e2]
    exact (name_encs t ht ho).1
  rw [nextS_8 g0 g1 g2 g3 g4 g5 g6 g7]
  rw [tokB_last (c := c) e1 (by omega) (by omega) (fun e hh => g2 ⟨e, (nc_sc t ht).1 (by rw [← e2]; exact hh)⟩) f3 f4 (by rw [ewd]; exact Bool.eq_false_iff.2 g5) (by rw [e1, e2, e3, e4, e5]; exact fun hh => g6 ⟨by omega, hh.2⟩) (by rw [e1, e2, ewt]; exact fun hh => g7 ⟨by omega, hh.2⟩), e2]
theorem nextS_all (c : Nat) (t : List Nat) (h : ∀ d ∈ c :: t, Cp d) (hs : ¬ (cpAt (c :: t) 0 = 47 ∧ cpAt (c :: t) 1 = 42)) (ho : (nextS c t).2.2 = false) : allC (encs (c :: t)) = allC (encs (nextS c t).2.1) := by
  obtain ⟨hc, ht⟩ := cps_tl h
  by_cases hw : isWs c = true
  · have e : (nextS c t).2.1 = spS t := by unfold nextS; rw [if_pos hw]
    rw [e, allC_sp (r := encs (c :: t)) (by rw [hd_encs c t hc, sp_nat]; exact hw), tl_encs c t hc]
    exact spS_all t ht
  · rw [allC_tok (encs_cons_ne c t) (by rw [hd_encs c t hc, sp_nat]; exact hw) (fun h2 => hs ((start_encs _ h).1 h2)), tokB_encs c t h (Bool.eq_false_iff.2 hw) ho]
theorem commF_sub : ∀ (f : Nat) (l : List Nat), (commF f l).2.1 <:+ l
  | 0, l => List.suffix_refl _
  | f + 1, l => by
    unfold commF
    by_cases h : cpAt l 0 = 47 ∧ cpAt l 1 = 42
    · rw [if_pos h]
      obtain ⟨t, rfl⟩ := two_len h
      have hd : (47 :: 42 :: t).drop 2 = t := rfl
      rw [hd]
      cases hc : closeS t with
      | none => exact List.nil_suffix
      | some r => exact (commF_sub f r).trans ((closeS_suf _ _ hc).trans ((List.suffix_cons 42 t).trans (List.suffix_cons 47 (42 :: t))))
    · rw [if_neg h]; exact List.suffix_refl _
theorem commF_no : ∀ (f : Nat) (l : List Nat), l.length < f → (commF f l).2.2 = false → ¬ (cpAt (commF f l).2.1 0 = 47 ∧ cpAt (commF f l).2.1 1 = 42)
  | 0, _, h, _ => absurd h (by omega)
  | f + 1, l, hf, ho => by
    unfold commF at ho ⊢
    by_cases h1 : cpAt l 0 = 47 ∧ cpAt l 1 = 42
    · rw [if_pos h1] at ho ⊢
      obtain ⟨t, rfl⟩ := two_len h1
      have hd : (47 :: 42 :: t).drop 2 = t := rfl
      rw [hd] at ho ⊢
      cases hc : closeS t with
      | none => rw [hc] at ho; cases ho
      | some r =>
        rw [hc] at ho
        have := closeS_len _ _ hc
        simp only [List.length_cons] at hf
        exact commF_no f r (by omega) ho
    · rw [if_neg h1]; exact h1
/-- The comments are the reference's. -/
theorem tokR_all : ∀ (o : List Tp) (l : List Nat) (cs : List (Nat × Nat)), (∀ c ∈ l, Cp c) → TokR o l cs false → allC (encs l) = cs
  | [], l, cs, h, ht => by
    obtain ⟨h1, rfl, h3⟩ := ht
    have e := commF_all (l.length + 1) l h h3.symm
    have h1' : (commF (l.length + 1) l).2.1 = [] := h1
    rw [h1'] at e
    rw [e, encs_nil, allC_nil, List.append_nil]
    rfl
  | tp :: o, l, cs, h, ht => by
    obtain ⟨c, t, cs', op', h1, -, h2, rfl, h3⟩ := ht
    have h4 : (commS l).2.2 = false ∧ (nextS c t).2.2 = false ∧ op' = false := by
      have := h3.symm
      simp only [Bool.or_eq_false_iff] at this
      exact ⟨this.1, this.2.1, this.2.2⟩
    obtain ⟨h5, h6, rfl⟩ := h4
    have hsub : ∀ d ∈ c :: t, Cp d := fun d hd => h d ((commF_sub (l.length + 1) l).subset (by have h1' : (commF (l.length + 1) l).2.1 = c :: t := h1; rw [h1']; exact hd))
    have hs := commF_no (l.length + 1) l (by omega) h5
    have h1' : (commF (l.length + 1) l).2.1 = c :: t := h1
    have e := commF_all (l.length + 1) l h h5
    rw [h1'] at e hs
    rw [e, nextS_all c t hsub hs h6, tokR_all o _ cs' (fun d hd => hsub d (List.mem_cons_of_mem c ((nextS_suf c t).subset hd))) h2]
    rfl
end Go.Proofs.YtmgkccnfhkcncaaGreatDoor
