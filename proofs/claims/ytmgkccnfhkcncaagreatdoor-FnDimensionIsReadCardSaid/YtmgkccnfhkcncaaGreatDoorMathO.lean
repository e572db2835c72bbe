/-
  Plain Lean, no program: on code points css_lexer's strings, addresses, numbers and names are the reference's, where nothing is left open.
-/
import Derived.Test.YtmgkccnfhkcncaaGreatDoorMathM
namespace Go.Proofs.YtmgkccnfhkcncaaGreatDoor
open Go

/-! ### strings -/
theorem not_end {c : Nat} (h : isNl c = false) : ¬ ((c : Int) = -1 ∨ nlB (c : Int) = true) := by
  rw [nl_nat, h]
  rintro (hh | hh)
  · omega
  · cases hh
/-- A code point that a string goes over. -/
theorem strB_over (q : Nat) (c : Nat) (t : List Nat) (hc : Cp c) (h1 : c ≠ q) (h2 : isNl c = false) (h3 : c ≠ 92) : strB (q : Int) (encs (c :: t)) = strB (q : Int) (encs t) := by
  refine loopB_go (strStep_lt _) ?_
  unfold strStep
  rw [hd_encs c t hc, tl_encs c t hc, if_neg (by omega), if_neg (not_end h2), if_neg (by omega)]
theorem strB_hex (q : Nat) (hq : q = 34 ∨ q = 39) : ∀ (n v : Nat) (l : List Nat), (∀ c ∈ l, Cp c) → strB (q : Int) (encs l) = strB (q : Int) (encs (hexRunC n v l).2)
  | 0, _, _, _ => rfl
  | n + 1, v, [], _ => rfl
  | n + 1, v, c :: t, h => by
    obtain ⟨hc, ht⟩ := cps_tl h
    rw [hexRunC_cons]
    cases hx : hexv c with
    | none => rfl
    | some x =>
      have ha := hexv_ascii hx
      have hn : isNl c = false := by
        cases hn : isNl c
        · rfl
        · exfalso; simp [isNl] at hn; omega
      have h92 : c ≠ 92 := by rintro rfl; have h0 : hexv 92 = none := rfl; rw [h0] at hx; cases hx
      dsimp only
      rw [strB_over q c t hc (by omega) hn h92]
      exact strB_hex q hq n _ t ht
theorem strB_tail (q : Nat) (hq : q = 34 ∨ q = 39) (l : List Nat) (h : ∀ c ∈ l, Cp c) (ho : (escTail l).2 = false) : strB (q : Int) (encs l) = strB (q : Int) (encs (escTail l).1) := by
  cases l with
  | nil => rfl
  | cons d u =>
    rw [escTail_cons] at ho ⊢
    by_cases h1 : isNl d = true
    · rw [if_pos h1] at ho; cases ho
    · rw [if_neg h1]
      by_cases h2 : isWs d = true
      · rw [if_pos h2]
        have h3 : d = 32 ∨ d = 9 := by simp [isWs] at h2; simp [isNl] at h1; omega
        exact strB_over q d u (cps_tl h).1 (by omega) (by simpa using h1) (by omega)
      · rw [if_neg h2]
theorem strB_encs (q : Nat) (hq : q = 34 ∨ q = 39) : ∀ (n : Nat) (l : List Nat), l.length ≤ n → (∀ c ∈ l, Cp c) → (quotS q l).2.2.2 = false → strB (q : Int) (encs l) = ((quotS q l).1, encs (quotS q l).2.2.1) := by
  intro n
  induction n with
  | zero =>
    intro l hn h ho
    have : l = [] := List.eq_nil_of_length_eq_zero (by omega)
    subst this
    rw [quotS_nil] at ho
    cases ho
  | succ n ih =>
    intro l hn h ho
    match l, hn, h, ho with
    | [], _, _, ho => rw [quotS_nil] at ho; cases ho
    | c :: t, hn, h, ho =>
      obtain ⟨hc, ht⟩ := cps_tl h
      simp only [List.length_cons] at hn
      have e1 := hd_encs c t hc
      have e2 := tl_encs c t hc
      by_cases h1 : c = q
      · subst h1
        rw [quotS_end]
        refine loopB_end ?_
        unfold strStep
        rw [e1, e2, if_neg (by omega), if_neg (by unfold nlB; simp; omega), if_pos rfl]
      · by_cases h2 : isNl c = true
        · rw [quotS_nl q c t h1 h2]
          refine loopB_end ?_
          unfold strStep
          have h3 : c = 10 ∨ c = 13 ∨ c = 12 := by simp [isNl] at h2; omega
          rw [e1, if_neg (by omega), if_pos (.inr (by rw [nl_nat]; exact h2))]
        · have h2' : isNl c = false := by simpa using h2
          by_cases h3 : c = 92
          · subst h3
            match t, hn, ht, e1, e2, ho with
            | [], _, _, _, _, ho =>
              rw [quotS_last q (by omega)] at ho
              cases ho
            | d :: u, hn, ht, e1, e2, ho =>
              obtain ⟨hd, hu⟩ := cps_tl ht
              simp only [List.length_cons] at hn
              by_cases h4 : isNl d = true
              · rw [quotS_cont q d u (by omega) h4] at ho ⊢
                have hl : (nlS (d :: u)).length ≤ u.length := by
                  rw [nlS_cons]
                  split
                  · exact dropLfC_len u
                  · exact Nat.le_refl _
                have hp := nlS_cp (d :: u) ht
                rw [← ih (nlS (d :: u)) (by omega) hp ho]
                refine loopB_go (strStep_lt _) ?_
                unfold strStep
                rw [e1, e2, if_pos (by decide), hd_encs d u hd, tl_encs d u hd, nlS_cons]
                by_cases h5 : d = 13
                · subst h5
                  rw [if_pos (show ((13 : Nat) : Int) = 13 from rfl), if_pos (show (13 : Nat) = 13 from rfl)]
                  congr 1
                  cases u with
                  | nil => rfl
                  | cons e v =>
                    obtain ⟨he, hv⟩ := cps_tl hu
                    rw [hd_encs e v he, tl_encs e v he, dropLfC_cons]
                    by_cases h6 : e = 10
                    · rw [if_pos h6, if_pos (by omega)]
                    · rw [if_neg h6, if_neg (by omega)]
                · rw [if_neg h5, if_neg (by omega)]
              · have h4' : isNl d = false := by simpa using h4
                have hd13 : d ≠ 13 := by rintro rfl; exact absurd h4' (by decide)
                rw [quotS_esc q d u (by omega) h4'] at ho ⊢
                dsimp only at ho ⊢
                rw [Bool.or_eq_false_iff] at ho
                have hstep : strB (q : Int) (encs (92 :: d :: u)) = strB (q : Int) (encs u) := by
                  refine loopB_go (strStep_lt _) ?_
                  unfold strStep
                  rw [e1, e2, if_pos (by decide), hd_encs d u hd, tl_encs d u hd, if_neg (by omega)]
                have hl := escS_len (d :: u)
                have hp := escS_cp (d :: u) ht
                rw [hstep]
                cases hx : hexv d with
                | none =>
                  rw [escS_none u hx] at ho ⊢
                  exact ih u (by omega) hu ho.2
                | some x =>
                  rw [escS_some u hx] at ho ⊢
                  dsimp only at ho ⊢
                  have hc2 := hexRunC_cp 5 x u hu
                  have hl2 := hexRunC_len 5 x u
                  have hl3 := escTail_len (hexRunC 5 x u).2
                  rw [strB_hex q hq 5 x u hu, strB_tail q hq _ hc2 ho.1]
                  exact ih _ (by omega) (escTail_cp _ hc2) ho.2
          · rw [quotS_plain q c t h1 h2' h3] at ho ⊢
            dsimp only at ho ⊢
            rw [strB_over q c t hc h1 h2' h3]
            exact ih t (by omega) ht ho

/-! ### addresses -/
theorem badB_encs : ∀ (n : Nat) (l : List Nat), l.length ≤ n → (∀ c ∈ l, Cp c) → (badS l).2 = false → badB (encs l) = encs (badS l).1 := by
  intro n
  induction n with
  | zero =>
    intro l hn h ho
    have : l = [] := List.eq_nil_of_length_eq_zero (by omega)
    subst this
    rw [badS_nil] at ho
    cases ho
  | succ n ih =>
    intro l hn h ho
    match l, hn, h, ho with
    | [], _, _, ho => rw [badS_nil] at ho; cases ho
    | c :: t, hn, h, ho =>
      obtain ⟨hc, ht⟩ := cps_tl h
      simp only [List.length_cons] at hn
      have e1 := hd_encs c t hc
      have e2 := tl_encs c t hc
      by_cases h1 : c = 41
      · subst h1
        rw [badS_end]
        refine loopB_end ?_
        unfold badStep
        rw [e1, e2, if_pos (by decide)]
      · by_cases h2 : c = 92 ∧ escOk t = true
        · obtain ⟨rfl, h2⟩ := h2
          rw [badS_esc t h2] at ho
          cases ho
        · rw [badS_other c t h1 h2] at ho ⊢
          rw [← ih t (by omega) ht ho]
          refine loopB_go badStep_lt ?_
          unfold badStep
          rw [e1, e2, if_neg (by omega), vescB_encs c t h, if_neg (fun e => h2 (of_decide_eq_true e))]
theorem urlB_bad {l : List Nat} (h : ∀ c ∈ l, Cp c) {x : List UInt8} (hu : urlB x = (none, encs l)) (ho : (badS l).2 = false) : addrB x = (3, true, encs (badS l).1) := by
  unfold addrB
  rw [hu]
  dsimp only
  rw [badB_encs _ l (Nat.le_refl _) h ho]
theorem addrB_go {x y : List UInt8} (h : urlStep x = .inr y) : addrB x = addrB y := by
  unfold addrB urlB
  rw [loopB_go urlStep_lt h]
theorem addrB_encs : ∀ (n : Nat) (l : List Nat), l.length ≤ n → (∀ c ∈ l, Cp c) → (urlS l).2.2.2 = false →
    addrB (encs l) = (if (urlS l).1 = true then 37 else 3, !(urlS l).1, encs (urlS l).2.2.1) := by
  intro n
  induction n with
  | zero =>
    intro l hn h ho
    have : l = [] := List.eq_nil_of_length_eq_zero (by omega)
    subst this
    rw [urlS_nil] at ho
    cases ho
  | succ n ih =>
    intro l hn h ho
    match l, hn, h, ho with
    | [], _, _, ho => rw [urlS_nil] at ho; cases ho
    | c :: t, hn, h, ho =>
      obtain ⟨hc, ht⟩ := cps_tl h
      simp only [List.length_cons] at hn
      have e1 := hd_encs c t hc
      have e2 := tl_encs c t hc
      have hcr : c ≤ 1114111 := by unfold Cp at hc; omega
      have hc1 : 1 ≤ c := hc.1
      by_cases h1 : c = 41
      · subst h1
        rw [urlS_end]
        unfold addrB urlB
        rw [loopB_end (a := (some (false, encs t), [])) (by unfold urlStep; rw [e1, e2, if_pos (by decide)])]
        rfl
      · have n1 : ¬ (c : Int) = 41 := by omega
        have n2 : ¬ (c : Int) = -1 := by omega
        by_cases h2 : isWs c = true
        · have w : spB (c : Int) = true := by rw [sp_nat]; exact h2
          have hs := spcB_encs t ht
          have hsp := spS_cp t ht
          cases hst : spS t with
          | nil => rw [urlS_ws_nil c t h2 hst] at ho; cases ho
          | cons d u =>
            rw [hst] at hs hsp
            obtain ⟨hd, hu⟩ := cps_tl hsp
            by_cases h3 : d = 41
            · subst h3
              rw [urlS_ws_end c t u h2 hst]
              unfold addrB urlB
              rw [loopB_end (a := (some (false, encs u), [])) (by unfold urlStep; rw [e1, e2, if_neg n1, if_neg n2, if_pos w, hs, hd_encs 41 u hd, tl_encs 41 u hd]; rfl)]
              rfl
            · rw [urlS_ws_bad c t d u h2 hst h3] at ho ⊢
              have := urlB_bad (x := encs (c :: t)) hsp (loopB_end (by unfold urlStep; rw [e1, e2, if_neg n1, if_neg n2, if_pos w, hs, hd_encs d u hd, if_neg (by omega), if_neg (by omega)])) ho
              rw [this]; rfl
        · have h2' : isWs c = false := by simpa using h2
          have w : ¬ spB (c : Int) = true := by rw [sp_nat]; exact h2
          by_cases h3 : spoils c t = true
          · rw [urlS_spoils c t h1 h2' h3] at ho ⊢
            have h4 : c = 34 ∨ c = 39 ∨ c = 40 ∨ (c ≤ 8 ∨ c = 11 ∨ (14 ≤ c ∧ c ≤ 31) ∨ c = 127) ∨ (c = 92 ∧ escOk t = false) := of_decide_eq_true h3
            have := urlB_bad (x := encs (c :: t)) h (loopB_end (by
              unfold urlStep
              rw [e1, e2, if_neg n1, if_neg n2, if_neg w]
              by_cases h5 : c = 34 ∨ c = 39 ∨ c = 40
              · rw [if_pos (by omega)]
              · rw [if_neg (by omega)]
                by_cases h6 : c = 92
                · subst h6
                  rw [if_pos (by decide), vescB_encs 92 t h, if_neg (by
                    intro hh
                    have := (of_decide_eq_true hh).2
                    rcases h4 with h4 | h4 | h4 | h4 | h4
                    · omega
                    · omega
                    · omega
                    · omega
                    · rw [h4.2] at this; cases this)]
                · rw [if_neg (by omega), if_pos (by unfold unpB; simp; omega)])) ho
            rw [this]; rfl
          · have h3' : spoils c t = false := by simpa using h3
            have h4 : ¬ (c = 34 ∨ c = 39 ∨ c = 40 ∨ (c ≤ 8 ∨ c = 11 ∨ (14 ≤ c ∧ c ≤ 31) ∨ c = 127) ∨ (c = 92 ∧ escOk t = false)) := of_decide_eq_false h3'
            by_cases h6 : c = 92
            · subst h6
              have hok : escOk t = true := by
                cases hok : escOk t
                · exact absurd (.inr (.inr (.inr (.inr ⟨rfl, hok⟩)))) h4
                · rfl
              rw [urlS_esc t hok] at ho ⊢
              dsimp only at ho ⊢
              rw [Bool.or_eq_false_iff] at ho
              have hl := escS_len t
              have hp := escS_cp t ht
              rw [← ih _ (by omega) hp.2 ho.2]
              refine addrB_go ?_
              unfold urlStep
              rw [e1, if_neg n1, if_neg n2, if_neg w, if_neg (by omega), if_pos (by decide), vescB_encs 92 t h, if_pos (decide_eq_true ⟨rfl, hok⟩), escV_encs t ht ho.1]
            · rw [urlS_plain c t h1 h2' h3' h6] at ho ⊢
              dsimp only at ho ⊢
              rw [← ih t (by omega) ht ho]
              refine addrB_go ?_
              unfold urlStep
              rw [e1, e2, if_neg n1, if_neg n2, if_neg w, if_neg (by omega), if_neg (by omega), if_neg (by unfold unpB; simp; omega)]

/-! ### names and numbers -/
theorem blen_encs (l : List Nat) : (encs l).length = blen l := rfl
theorem numericB_encs (l : List Nat) (h : ∀ c ∈ l, Cp c) (ho : (numericS l).2.2 = false) : numericB (encs l) = ((numericS l).1.kind, (numericS l).1.unit, encs (numericS l).2.1) := by
  have hcp := numS_cp l h
  unfold numericB
  unfold numericS at ho ⊢
  by_cases h1 : identZ (cpAt (numS l).1 0) (cpAt (numS l).1 1) (cpAt (numS l).1 2) = true
  · rw [if_pos h1] at ho ⊢
    dsimp only at ho
    rw [Bool.or_eq_false_iff] at ho
    rw [numB_encs l h ho.1, wouldB_encs _ hcp, if_pos h1, (name_encs _ hcp ho.2).1]
    rfl
  · rw [if_neg h1] at ho ⊢
    by_cases h2 : cpAt (numS l).1 0 = 37
    · rw [if_pos h2] at ho ⊢
      rw [numB_encs l h ho, wouldB_encs _ hcp, if_neg h1, hdB_encs _ hcp, if_pos h2, tlB_encs _ hcp]
    · rw [if_neg h2] at ho ⊢
      rw [numB_encs l h ho, wouldB_encs _ hcp, if_neg h1, hdB_encs _ hcp, if_neg h2]
theorem identB_encs (l : List Nat) (h : ∀ c ∈ l, Cp c) (ho : (namedS l).2.2 = false) : ∃ t, identB (encs l) = ((namedS l).1.kind, t, encs (namedS l).2.1) ∧ ((namedS l).1.kind ≠ 3 → t = false) := by
  have ho1 : (nameS l).2.2 = false := by
    unfold namedS at ho
    split at ho
    · exact ho
    · split at ho
      · exact ho
      · split at ho
        · exact (Bool.or_eq_false_iff.1 ho).1
        · exact ho
  obtain ⟨h1, h2⟩ := name_encs l h ho1
  have hcp := (nameS_cp _ l (Nat.le_refl _) h).2
  have hcn := (nameS_cp _ l (Nat.le_refl _) h).1
  unfold identB
  rw [h1, h2, isUrl_encs _ hcn]
  unfold namedS at ho ⊢
  cases hr : (nameS l).2.1 with
  | nil =>
    rw [if_neg (by decide)]
    exact ⟨false, rfl, fun _ => rfl⟩
  | cons c t =>
    rw [hr] at hcp ho
    obtain ⟨hc, ht⟩ := cps_tl hcp
    dsimp only at ho ⊢
    rw [hd_encs c t hc, tl_encs c t hc]
    by_cases h3 : c = 40
    · subst h3
      rw [if_neg (show ¬ ((40 : Nat) ≠ 40) by simp)] at ho ⊢
      rw [if_pos (show ((40 : Nat) : Int) = 40 from rfl), spcB_encs t ht, hdB_encs _ (spS_cp t ht)]
      by_cases h4 : isUrlC (nameS l).1 = true ∧ cpAt (spS t) 0 ≠ 34 ∧ cpAt (spS t) 0 ≠ 39
      · rw [if_pos h4] at ho ⊢
        rw [if_pos h4]
        dsimp only at ho ⊢
        have ho2 : (urlS (spS t)).2.2.2 = false := by
          have := (Bool.or_eq_false_iff.1 ho).2
          unfold addrS at this
          dsimp only at this
          rw [Bool.or_eq_false_iff, Bool.or_eq_false_iff] at this
          exact this.1.1
        rw [addrB_encs _ _ (Nat.le_refl _) (spS_cp t ht) ho2]
        refine ⟨_, rfl, ?_⟩
        unfold addrS
        dsimp only
        cases (urlS (spS t)).1 with
        | true => exact fun _ => rfl
        | false => intro h5; exact absurd rfl h5
      · rw [if_neg h4, if_neg h4]
        exact ⟨false, rfl, fun _ => rfl⟩
    · rw [if_pos h3, if_neg (by omega)]
      exact ⟨false, rfl, fun _ => rfl⟩
end Go.Proofs.YtmgkccnfhkcncaaGreatDoor
