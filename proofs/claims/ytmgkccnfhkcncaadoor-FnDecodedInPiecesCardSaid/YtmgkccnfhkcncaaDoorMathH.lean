/-
  Plain Lean: the text of a string, and of an identifier, is what its escapes mean.
-/
import Derived.Test.YtmgkccnfhkcncaaDoorMathG
namespace Go.Proofs.YtmgkccnfhkcncaaDoor
open Go

theorem hexRunC_snoc (q : Nat) (hq : hexv q = none) : ∀ (n v : Nat) (l : List Nat), hexRunC n v (l ++ [q]) = ((hexRunC n v l).1, (hexRunC n v l).2 ++ [q])
  | 0, _, _ => rfl
  | n + 1, v, [] => by show hexRunC (n + 1) v [q] = _; rw [hexRunC_cons, hq]; rfl
  | n + 1, v, c :: t => by
    rw [List.cons_append, hexRunC_cons, hexRunC_cons]
    cases hexv c with
    | none => rfl
    | some x => exact hexRunC_snoc q hq n _ t
theorem nlS_snoc (d q : Nat) (u : List Nat) (hq : q ≠ 10) : nlS (d :: (u ++ [q])) = nlS (d :: u) ++ [q] := by
  rw [nlS_cons, nlS_cons]
  by_cases h : d = 13
  · rw [if_pos h, if_pos h]
    cases u with
    | nil => show dropLfC [q] = _; rw [dropLfC_cons, if_neg hq]; rfl
    | cons e v =>
      rw [List.cons_append, dropLfC_cons, dropLfC_cons]
      by_cases h2 : e = 10
      · rw [if_pos h2, if_pos h2]
      · rw [if_neg h2, if_neg h2]; rfl
  · rw [if_neg h, if_neg h]
/-- What follows the digits of an escape, where nothing is left open. -/
theorem escTail_drop (l r : List Nat) (h : escTail l = (r, false)) : dropWsC l = r := by
  cases l with
  | nil => exact (Prod.mk.inj h).1
  | cons d u =>
    rw [escTail_cons] at h
    rw [dropWsC_cons]
    by_cases h1 : isNl d = true
    · rw [if_pos h1] at h; simp at h
    · rw [if_neg h1] at h
      by_cases h2 : isWs d = true
      · rw [if_pos h2] at h ⊢; exact (Prod.mk.inj h).1
      · rw [if_neg h2] at h ⊢; exact (Prod.mk.inj h).1
theorem escTail_snoc (q : Nat) (hq : isWs q = false) (hn : isNl q = false) (l r : List Nat) (h : escTail (l ++ [q]) = (r, false)) : r = dropWsC l ++ [q] := by
  cases l with
  | nil =>
    have h : escTail [q] = (r, false) := h
    rw [escTail_cons, if_neg (by rw [hn]; decide), if_neg (by rw [hq]; decide)] at h
    exact (Prod.mk.inj h).1.symm
  | cons d u =>
    rw [List.cons_append] at h
    have := escTail_drop _ _ h
    rw [← this, dropWsC_cons, dropWsC_cons]
    by_cases h2 : isWs d = true
    · rw [if_pos h2, if_pos h2]
    · rw [if_neg h2, if_neg h2]; rfl
/-- An escape that leaves nothing open means what decP says. -/
theorem decP_escS (d : Nat) (u : List Nat) (hn : isNl d = false) (v : Nat) (r : List Nat) (h : escS (d :: u) = (v, r, false)) : decP (92 :: d :: u) = v :: decP r := by
  cases hx : hexv d with
  | none =>
    rw [escS_none u hx] at h
    obtain ⟨rfl, h2⟩ := Prod.mk.inj h
    obtain ⟨rfl, _⟩ := Prod.mk.inj h2
    exact decP_back d u hx hn
  | some x =>
    rw [escS_some u hx] at h
    obtain ⟨h1, h2⟩ := Prod.mk.inj h
    obtain ⟨h3, h4⟩ := Prod.mk.inj h2
    have h5 := escTail_drop (hexRunC 5 x u).2 r (Prod.ext h3 h4)
    rw [decP_step _ (by simp), stepC_esc]
    unfold escC
    rw [hx]
    dsimp only
    rw [h1, h5]; rfl
theorem escS_snoc (q d : Nat) (u : List Nat) (hq : hexv q = none) (hw : isWs q = false) (hn : isNl q = false) (v : Nat) (r : List Nat) (h : escS (d :: (u ++ [q])) = (v, r, false)) : ∃ r', r = r' ++ [q] ∧ escS (d :: u) = (v, r', false) := by
  cases hx : hexv d with
  | none =>
    rw [escS_none _ hx] at h
    obtain ⟨rfl, h2⟩ := Prod.mk.inj h
    obtain ⟨rfl, _⟩ := Prod.mk.inj h2
    exact ⟨u, rfl, escS_none u hx⟩
  | some x =>
    rw [escS_some _ hx, hexRunC_snoc q hq] at h
    obtain ⟨h1, h2⟩ := Prod.mk.inj h
    obtain ⟨h3, h4⟩ := Prod.mk.inj h2
    have h5 := escTail_snoc q hw hn (hexRunC 5 x u).2 r (Prod.ext h3 h4)
    refine ⟨_, h5, ?_⟩
    rw [escS_some _ hx]
    dsimp only at h1 h4
    rw [h1]
    have h6 : escTail (hexRunC 5 x u).2 = (dropWsC (hexRunC 5 x u).2, false) := by
      generalize (hexRunC 5 x u).2 = l at h4
      cases l with
      | nil => rfl
      | cons e w =>
        rw [List.cons_append, escTail_cons] at h4
        rw [escTail_cons, dropWsC_cons]
        by_cases h1 : isNl e = true
        · rw [if_pos h1] at h4; simp at h4
        · rw [if_neg h1]
          by_cases h2 : isWs e = true
          · rw [if_pos h2, if_pos h2]
          · rw [if_neg h2, if_neg h2]
    rw [h6]
/-- **The text of a string that is whole is what its escapes mean.** -/
theorem quot_dec (q : Nat) (hq : q = 34 ∨ q = 39) : ∀ (n : Nat) (l : List Nat), l.length ≤ n → ∀ x, quotS q (l ++ [q]) = (true, x, [], false) → decP l = x := by
  have hx : hexv q = none := hexv_none (by omega)
  have hw : isWs q = false := by simp [isWs]; omega
  have hnl : isNl q = false := by simp [isNl]; omega
  intro n
  induction n with
  | zero =>
    intro l hl x h
    have : l = [] := List.eq_nil_of_length_eq_zero (by omega)
    subst this
    have h : quotS q (q :: []) = _ := h
    rw [quotS_end] at h
    simp at h
    rw [h]; rfl
  | succ n ih =>
    intro l hl x h
    match l, hl, h with
    | [], _, h =>
      have h : quotS q (q :: []) = _ := h
      rw [quotS_end] at h
      simp at h
      rw [h]; rfl
    | c :: t, hl, h =>
      simp only [List.length_cons] at hl
      rw [List.cons_append] at h
      by_cases h1 : c = q
      · subst h1
        rw [quotS_end] at h
        simp at h
      · cases h2 : isNl c with
        | true => rw [quotS_nl q c _ h1 h2] at h; simp at h
        | false =>
          by_cases h3 : c = 92
          · subst h3
            match t, hl, h with
            | [], _, h =>
              have h : quotS q (92 :: q :: []) = _ := h
              rw [quotS_esc q q [] h1 hnl, escS_none [] hx] at h
              simp [quotS_nil] at h
            | d :: u, hl, h =>
              simp only [List.length_cons] at hl
              rw [List.cons_append] at h
              cases hd : isNl d with
              | true =>
                rw [quotS_cont q d _ h1 hd, nlS_snoc d q u (by omega)] at h
                have hlen := nlS_len (d :: u)
                simp only [List.length_cons] at hlen
                have := ih (nlS (d :: u)) (by omega) x h
                rw [← this, decP_step _ (by simp), stepC_esc]
                simp [isNl] at hd
                have hxd : hexv d = none := hexv_none (by omega)
                unfold escC
                rw [hxd]
                dsimp only
                rw [nlS_cons]
                by_cases h13 : d = 13
                · rw [if_neg (by omega), if_pos h13, if_pos h13]; rfl
                · rw [if_pos (by omega), if_neg h13]; rfl
              | false =>
                rw [quotS_esc q d _ h1 hd] at h
                obtain ⟨v, r, o, he⟩ : ∃ v r o, escS (d :: (u ++ [q])) = (v, r, o) := ⟨_, _, _, rfl⟩
                rw [he] at h
                dsimp only at h
                obtain ⟨e1, h⟩ := Prod.mk.inj h
                obtain ⟨e2, h⟩ := Prod.mk.inj h
                obtain ⟨e3, e4⟩ := Prod.mk.inj h
                rw [Bool.or_eq_false_iff] at e4
                obtain ⟨rfl, e4⟩ := e4
                obtain ⟨r', rfl, he'⟩ := escS_snoc q d u hx hw hnl v r he
                have hlen := escS_len (d :: u)
                rw [he'] at hlen
                simp only [List.length_cons] at hlen
                have := ih r' (by omega) _ (Prod.ext e1 (Prod.ext rfl (Prod.ext e3 e4)))
                rw [decP_escS d u hd v r' he', this, e2]
          · rw [quotS_plain q c _ h1 h2 h3] at h
            obtain ⟨e1, h⟩ := Prod.mk.inj h
            obtain ⟨e2, h⟩ := Prod.mk.inj h
            obtain ⟨e3, e4⟩ := Prod.mk.inj h
            have := ih t (by omega) _ (Prod.ext e1 (Prod.ext rfl (Prod.ext e3 e4)))
            rw [decP_plain c t h3, this, e2]
/-- **A name that is whole is what its escapes mean.** -/
theorem name_dec : ∀ (n : Nat) (l : List Nat), l.length ≤ n → ∀ x, nameS l = (x, [], false) → decP l = x
  | _, [], _, x, h => by rw [nameS_nil] at h; rw [← (Prod.mk.inj h).1]; rfl
  | 0, _ :: _, h, _, _ => absurd h (by simp)
  | n + 1, c :: t, hl, x, h => by
    simp only [List.length_cons] at hl
    by_cases h1 : conts c = true
    · rw [nameS_conts c t h1] at h
      obtain ⟨e1, h⟩ := Prod.mk.inj h
      obtain ⟨e2, e3⟩ := Prod.mk.inj h
      have hc : (97 ≤ c ∧ c ≤ 122) ∨ (65 ≤ c ∧ c ≤ 90) ∨ c = 95 ∨ 128 ≤ c ∨ (48 ≤ c ∧ c ≤ 57) ∨ c = 45 := of_decide_eq_true h1
      rw [decP_plain c t (by omega), name_dec n t (by omega) _ (Prod.ext rfl (Prod.ext e2 e3)), e1]
    · by_cases h2 : c = 92 ∧ escOk t = true
      · obtain ⟨rfl, h2⟩ := h2
        rw [nameS_esc t h2] at h
        match t, hl, h2, h with
        | [], _, _, h => rw [escS_nil] at h; simp at h
        | d :: u, hl, h2, h =>
          simp only [List.length_cons] at hl
          have hd : isNl d = false := by have : (!isNl d) = true := h2; simpa using this
          obtain ⟨v, r, o, he⟩ : ∃ v r o, escS (d :: u) = (v, r, o) := ⟨_, _, _, rfl⟩
          have hlen := escS_len (d :: u)
          rw [he] at h hlen
          dsimp only at h hlen
          simp only [List.length_cons] at hlen
          obtain ⟨e1, h⟩ := Prod.mk.inj h
          obtain ⟨e2, e3⟩ := Prod.mk.inj h
          rw [Bool.or_eq_false_iff] at e3
          obtain ⟨rfl, e3⟩ := e3
          rw [decP_escS d u hd v r he, name_dec n r (by omega) _ (Prod.ext rfl (Prod.ext e2 e3)), e1]
      · rw [nameS_stop c t h1 h2] at h
        simp at h

theorem comm_nil {l : List Nat} (h : (commS l).1 = []) : commS l = ([], l, false) := by
  by_cases h1 : cpAt l 0 = 47 ∧ cpAt l 1 = 42
  · obtain ⟨t, rfl⟩ := two_len h1
    cases hc : closeS t with
    | none => rw [commS_open t hc] at h; simp at h
    | some r => rw [commS_some t r hc] at h; simp at h
  · exact commS_no l h1
/-- One token, no comment, nothing left open. -/
theorem tok_one {tp : Tp} {l : List Nat} {cs : List (Nat × Nat)} {op : Bool} (h : TokR [tp] l cs op) (hc : cs = []) (ho : op = false) : ∃ c t, l = c :: t ∧ nextS c t = (tp.tk, [], false) := by
  subst hc; subst ho
  obtain ⟨c, t, cs', op', h1, rfl, ⟨h3, h4, h5⟩, h6, h7⟩ := h
  have h6 := List.append_eq_nil_iff.1 h6.symm
  have h8 := comm_nil h6.1
  rw [h8] at h1 h7
  rw [h6.2] at h4
  have h9 := comm_nil h4.symm
  rw [h9] at h3
  have h10 := Bool.or_eq_false_iff.1 h7.symm
  have h11 := Bool.or_eq_false_iff.1 h10.2
  exact ⟨c, t, h1, Prod.ext rfl (Prod.ext h3 h11.1)⟩
theorem next_string {l : List Nat} {tk : Tk} (h : nextS 34 (l ++ [34]) = (tk, [], false)) (hk : tk.kind = 36) : decP l = tk.text := by
  unfold nextS at h
  rw [if_neg (by decide), if_pos (Or.inl rfl)] at h
  obtain ⟨h1, h2⟩ := Prod.mk.inj h
  cases hq : (quotS 34 (l ++ [34])).1 with
  | false => rw [hq] at h1; subst h1; simp at hk
  | true =>
    rw [hq] at h1; subst h1
    obtain ⟨h3, h4⟩ := Prod.mk.inj h2
    exact quot_dec 34 (Or.inl rfl) _ l (Nat.le_refl _) _ (Prod.ext hq (Prod.ext rfl (Prod.ext h3 h4)))
theorem ite_ne {p : Prop} [Decidable p] {a b n : Nat} (h1 : a ≠ n) (h2 : b ≠ n) : (if p then a else b) ≠ n := by
  by_cases h : p
  · rw [if_pos h]; exact h1
  · rw [if_neg h]; exact h2
theorem signK_ne (c : Nat) : signK c ≠ 29 := by
  unfold signK
  repeat (refine ite_ne ?_ ?_; · decide)
  decide
theorem ident_conts {c : Nat} {t : List Nat} (h : identZ (c : Int) (cpAt t 0) (cpAt t 1) = true) : conts c = true ∨ (c = 92 ∧ escOk t = true) := by
  unfold identZ at h
  by_cases h45 : (c : Int) = 45
  · left; have : c = 45 := by omega
    subst this; rfl
  · rw [if_neg h45, escZ_ok, ss_nat] at h
    rcases Bool.or_eq_true_iff.1 h with h | h
    · left
      have h : (97 ≤ c ∧ c ≤ 122) ∨ (65 ≤ c ∧ c ≤ 90) ∨ c = 95 ∨ 128 ≤ c := of_decide_eq_true h
      exact decide_eq_true (by omega)
    · right; exact of_decide_eq_true h
theorem name_ne {c : Nat} {t : List Nat} (h : conts c = true ∨ (c = 92 ∧ escOk t = true)) : (nameS (c :: t)).1 ≠ [] := by
  by_cases h1 : conts c = true
  · rw [nameS_conts c t h1]; simp
  · rcases h with h | ⟨rfl, h⟩
    · exact absurd h h1
    · rw [nameS_esc t h]; simp
theorem next_ident {c : Nat} {t : List Nat} {tk : Tk} (h : nextS c t = (tk, [], false)) (hk : tk.kind = 29) : decP (c :: t) = tk.text ∧ tk.text ≠ [] := by
  unfold nextS at h
  split at h
  · obtain ⟨h1, _⟩ := Prod.mk.inj h; subst h1; simp at hk
  split at h
  · obtain ⟨h1, _⟩ := Prod.mk.inj h; subst h1; dsimp only at hk; split at hk <;> omega
  split at h
  · obtain ⟨h1, _⟩ := Prod.mk.inj h; subst h1; simp at hk
  split at h
  · unfold numericS at h
    split at h
    · obtain ⟨h1, _⟩ := Prod.mk.inj h; subst h1; simp at hk
    split at h
    · obtain ⟨h1, _⟩ := Prod.mk.inj h; subst h1; simp at hk
    · obtain ⟨h1, _⟩ := Prod.mk.inj h; subst h1; simp at hk
  split at h
  · obtain ⟨h1, _⟩ := Prod.mk.inj h; subst h1; simp at hk
  split at h
  · rename_i hid
    have hne := name_ne (ident_conts hid)
    unfold namedS at h
    split at h
    · rename_i hr
      obtain ⟨h1, h2⟩ := Prod.mk.inj h
      obtain ⟨_, h3⟩ := Prod.mk.inj h2
      subst h1
      exact ⟨name_dec _ _ (Nat.le_refl _) _ (Prod.ext rfl (Prod.ext hr h3)), hne⟩
    · split at h
      · obtain ⟨_, h2⟩ := Prod.mk.inj h
        obtain ⟨h3, _⟩ := Prod.mk.inj h2
        simp at h3
      split at h
      · obtain ⟨h1, _⟩ := Prod.mk.inj h; subst h1; unfold addrS at hk; dsimp only at hk; split at hk <;> omega
      · obtain ⟨h1, _⟩ := Prod.mk.inj h; subst h1; simp at hk
  split at h
  · obtain ⟨h1, _⟩ := Prod.mk.inj h; subst h1; simp at hk
  split at h
  · obtain ⟨h1, _⟩ := Prod.mk.inj h; subst h1; simp at hk
  · obtain ⟨h1, _⟩ := Prod.mk.inj h; subst h1; exact absurd hk (signK_ne c)
end Go.Proofs.YtmgkccnfhkcncaaDoor
