/-
  Plain Lean: every token takes at least one code point, and leaves a rest of the text.
-/
import Derived.Test.YtmgkccnfhkcncaaDoorSpecNd
import Derived.Test.YtmgkccnfhkcncaaDoorSpecNum
import Derived.Test.YtmgkccnfhkcncaaDoorMathH
namespace Go.Proofs.YtmgkccnfhkcncaaDoor
open Go

theorem quotS_suf (q : Nat) (hq : q = 34 ∨ q = 39) : ∀ (n : Nat) (l : List Nat), l.length ≤ n → (quotS q l).2.2.1 <:+ l
  | _, [], _ => List.suffix_refl _
  | 0, _ :: _, h => absurd h (by simp)
  | n + 1, c :: t, h => by
    simp only [List.length_cons] at h
    by_cases h1 : c = q
    · subst h1; rw [quotS_end]; exact List.suffix_cons _ _
    · cases h2 : isNl c with
      | true => rw [quotS_nl q c t h1 h2]; exact List.suffix_refl _
      | false =>
        by_cases h3 : c = 92
        · subst h3
          match t, h with
          | [], _ => rw [quotS_last q (by omega)]; exact List.suffix_cons _ _
          | d :: u, h =>
            simp only [List.length_cons] at h
            cases hd : isNl d with
            | true =>
              rw [quotS_cont q d u (by omega) hd]
              have := nlS_len (d :: u)
              simp only [List.length_cons] at this
              exact ((quotS_suf q hq n (nlS (d :: u)) (by omega)).trans (nlS_suf _)).trans (List.suffix_cons _ _)
            | false =>
              rw [quotS_esc q d u (by omega) hd]
              have := escS_len (d :: u)
              simp only [List.length_cons] at this
              exact ((quotS_suf q hq n (escS (d :: u)).2.1 (by omega)).trans (escS_suf _)).trans (List.suffix_cons _ _)
        · rw [quotS_plain q c t h1 h2 h3]
          exact (quotS_suf q hq n t (by omega)).trans (List.suffix_cons _ _)
theorem badS_suf : ∀ (n : Nat) (l : List Nat), l.length ≤ n → (badS l).1 <:+ l
  | _, [], _ => List.suffix_refl _
  | 0, _ :: _, h => absurd h (by simp)
  | n + 1, c :: t, h => by
    simp only [List.length_cons] at h
    by_cases h1 : c = 41
    · subst h1; rw [badS_end]; exact List.suffix_cons _ _
    · by_cases h2 : c = 92 ∧ escOk t = true
      · obtain ⟨rfl, h2⟩ := h2
        rw [badS_esc t h2]
        have := escS_len t
        exact ((badS_suf n (escS t).2.1 (by omega)).trans (escS_suf t)).trans (List.suffix_cons _ _)
      · rw [badS_other c t h1 h2]
        exact (badS_suf n t (by omega)).trans (List.suffix_cons _ _)
theorem urlS_suf : ∀ (n : Nat) (l : List Nat), l.length ≤ n → (urlS l).2.2.1 <:+ l
  | _, [], _ => List.suffix_refl _
  | 0, _ :: _, h => absurd h (by simp)
  | n + 1, c :: t, h => by
    simp only [List.length_cons] at h
    by_cases h1 : c = 41
    · subst h1; rw [urlS_end]; exact List.suffix_cons _ _
    · cases h2 : isWs c with
      | true =>
        have hsp := spS_suf t
        cases hs : spS t with
        | nil => rw [urlS_ws_nil c t h2 hs]; exact List.nil_suffix
        | cons d u =>
          rw [hs] at hsp
          by_cases hd : d = 41
          · subst hd; rw [urlS_ws_end c t u h2 hs]; exact ((List.suffix_cons _ _).trans hsp).trans (List.suffix_cons _ _)
          · rw [urlS_ws_bad c t d u h2 hs hd]; exact ((badS_suf _ _ (Nat.le_refl _)).trans hsp).trans (List.suffix_cons _ _)
      | false =>
        cases hs : spoils c t with
        | true => rw [urlS_spoils c t h1 h2 hs]; exact badS_suf _ _ (Nat.le_refl _)
        | false =>
          by_cases h3 : c = 92
          · subst h3
            have het : escOk t = true := by
              cases he : escOk t with
              | true => rfl
              | false => exact absurd (spoils_iff.2 (Or.inr (Or.inr (Or.inr (Or.inr ⟨rfl, he⟩))))) (by rw [hs]; decide)
            rw [urlS_esc t het]
            have h4 := escS_len t
            exact ((urlS_suf n (escS t).2.1 (by omega)).trans (escS_suf t)).trans (List.suffix_cons _ _)
          · rw [urlS_plain c t h1 h2 hs h3]
            exact (urlS_suf n t (by omega)).trans (List.suffix_cons _ _)
theorem nameS_proper {c : Nat} {t : List Nat} (h : conts c = true ∨ (c = 92 ∧ escOk t = true)) : (nameS (c :: t)).2.1 <:+ t := by
  by_cases h1 : conts c = true
  · rw [nameS_conts c t h1]; exact nameS_suf t
  · rcases h with h | ⟨rfl, h⟩
    · exact absurd h h1
    · rw [nameS_esc t h]; exact (nameS_suf _).trans (escS_suf t)
theorem namedS_suf {c : Nat} {t : List Nat} (h : identZ (c : Int) (cpAt t 0) (cpAt t 1) = true) : (namedS (c :: t)).2.1 <:+ t := by
  have hn := nameS_proper (ident_conts h)
  cases hr : (nameS (c :: t)).2.1 with
  | nil => rw [namedS_nil hr]; exact List.nil_suffix
  | cons d u =>
    rw [hr] at hn
    by_cases hd : d = 40
    · subst hd
      by_cases hu : isUrlC (nameS (c :: t)).1 = true ∧ cpAt (spS u) 0 ≠ 34 ∧ cpAt (spS u) 0 ≠ 39
      · rw [namedS_url hr hu _ rfl]
        exact (((urlS_suf _ _ (Nat.le_refl _)).trans (spS_suf u)).trans (List.suffix_cons _ _)).trans hn
      · rw [namedS_fun hr hu]; exact (List.suffix_cons _ _).trans hn
    · rw [namedS_ident hr hd]; exact hn
theorem numS_proper {c : Nat} {t : List Nat} (h : countZ (c : Int) (cpAt t 0) (cpAt t 1) = true) : (numS (c :: t)).1 <:+ t := by
  have step : ∀ l, (pointS (dgS (signS (c :: t)))).1 <:+ l → (numS (c :: t)).1 <:+ l := fun l hl => (expS_suf _).trans hl
  apply step
  by_cases h1 : (c : Int) = 43 ∨ (c : Int) = 45
  · rw [signS_yes (by rw [cpAt_zero_cons]; exact h1), List.tail_cons]
    exact (pointS_suf _).trans (dgS_suf t)
  · unfold countZ at h
    rw [if_neg h1] at h
    rw [signS_no (by rw [cpAt_zero_cons]; exact h1), dgS_cons]
    cases hd : isDg c with
    | true => rw [if_pos rfl]; exact (pointS_suf _).trans (dgS_suf t)
    | false =>
      rw [if_neg (by decide)]
      rw [dg_nat, hd, Bool.false_or, Bool.and_eq_true, decide_eq_true_iff] at h
      rw [pointS_yes (by rw [cpAt_zero_cons]; exact h.1) (by rw [cpAt_succ_cons]; exact h.2), List.tail_cons]
      exact dgS_suf t
theorem numericS_suf {c : Nat} {t : List Nat} (h : countZ (c : Int) (cpAt t 0) (cpAt t 1) = true) : (numericS (c :: t)).2.1 <:+ t := by
  have hn := numS_proper h
  unfold numericS
  split
  · exact (nameS_suf _).trans hn
  · split
    · exact (List.tail_suffix _).trans hn
    · exact hn
theorem nextS_suf (c : Nat) (t : List Nat) : (nextS c t).2.1 <:+ t := by
  unfold nextS
  split
  · exact spS_suf t
  split
  · rename_i hq; exact quotS_suf c hq _ t (Nat.le_refl _)
  split
  · exact nameS_suf t
  split
  · rename_i h; exact numericS_suf h
  split
  · exact List.drop_suffix _ _
  split
  · rename_i h; exact namedS_suf h
  split
  · exact List.drop_suffix _ _
  split
  · exact nameS_suf t
  · exact List.suffix_refl _
theorem closeS_suf : ∀ (l r : List Nat), closeS l = some r → r <:+ l
  | [], _, h => by simp [closeS] at h
  | c :: t, r, h => by
    unfold closeS at h
    by_cases h1 : c = 42 ∧ t.head? = some 47
    · rw [if_pos h1] at h
      obtain rfl := Option.some.inj h
      exact (List.tail_suffix t).trans (List.suffix_cons _ _)
    · rw [if_neg h1] at h
      exact (closeS_suf t r h).trans (List.suffix_cons _ _)
end Go.Proofs.YtmgkccnfhkcncaaDoor
