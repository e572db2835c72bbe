/-
  Plain Lean, no program: css_lexer's next token, where it tells nothing; written names, texts and addresses are one token.
-/
import Derived.Test.YtmgkccnfhkcncaaGreatDoorMathO
import Derived.Test.YtmgkccnfhkcncaaGreatDoorMathJ
namespace Go.Proofs.YtmgkccnfhkcncaaGreatDoor
open Go

/-- next, where it tells nothing and meets no comment and no whitespace: kind, unit, flags, what is left. -/
def nxB (r : List UInt8) : Option (Nat × Nat × Nat × List UInt8) :=
  if hdB r = 34 ∨ hdB r = 39 then (if (strB (hdB r) (tlB r)).1 = true then some (36, 0, 0, (strB (hdB r) (tlB r)).2) else none)
  else if hdB r = 35 then (if ncB (hdB (tlB r)) = true ∨ vescB (tlB r) = true then some (28, 0, if wouldB (tlB r) = true then 1 else 0, nameR (tlB r)) else none)
  else if hdB r = 58 then some (9, 0, 0, tlB r)
  else if hdB r = 64 then (if wouldB (tlB r) = true then some (1, 0, 0, nameR (tlB r)) else none)
  else if dgB (hdB r) = true then some ((numericB r).1, (numericB r).2.1, 0, (numericB r).2.2)
  else if hdB r = 45 then
    (if cntB r = false ∧ ¬ (hdB (tlB r) = 45 ∧ hdB (tlB (tlB r)) = 62) ∧ wouldB r = true ∧ (identB r).2.1 = false then some ((identB r).1, 0, 0, (identB r).2.2) else none)
  else if hdB r = 92 then (if vescB r = true ∧ (identB r).2.1 = false then some ((identB r).1, 0, 0, (identB r).2.2) else none)
  else if nsB (hdB r) = true then (if (identB r).2.1 = false then some ((identB r).1, 0, 0, (identB r).2.2) else none)
  else none

/-! ### an identifier, a function, an address -/
theorem nxB_ident (l : List Nat) (h : ∀ c ∈ l, Cp c) (x : Bool) (hb : Begins x l) (ho : (namedS l).2.2 = false) (hk : (namedS l).1.kind ≠ 3) :
    nxB (encs l) = some ((namedS l).1.kind, 0, 0, encs (namedS l).2.1) := by
  obtain ⟨t', hi, ht'⟩ := identB_encs l h ho
  have ht := ht' hk
  obtain ⟨c, t, rfl, h1, h2, h3, _⟩ := hb
  obtain ⟨hc, hct⟩ := cps_tl h
  have e1 := hd_encs c t hc
  have e2 := tl_encs c t hc
  have hct2 : ∀ d ∈ t.tail, Cp d := fun d hd => hct d (List.mem_of_mem_tail hd)
  have hcr : c ≤ 1114111 := by unfold Cp at hc; omega
  have hc1 : 1 ≤ c := hc.1
  have hw : wouldB (encs (c :: t)) = true := by rw [wouldB_encs _ h]; exact h1
  have hcnt : cntB (encs (c :: t)) = false := by rw [cntB_encs _ h]; exact h2
  have hcdc : ¬ (hdB (tlB (encs (c :: t))) = 45 ∧ hdB (tlB (tlB (encs (c :: t)))) = 62) ∨ c ≠ 45 := by
    by_cases h45 : c = 45
    · left
      rw [e2, hdB_encs _ hct, tlB_encs _ hct, hdB_encs _ hct2]
      have : cpAt t.tail 0 = cpAt t 1 := by cases t <;> rfl
      rw [this]
      exact fun hh => h3 ⟨h45, hh⟩
    · exact .inr h45
  have hcase : c = 45 ∨ starts c = true ∨ (c = 92 ∧ escOk t = true) := by
    unfold identZ at h1
    by_cases h45 : (c : Int) = 45
    · exact .inl (by omega)
    · rw [if_neg h45, ss_nat, escZ_ok, Bool.or_eq_true, decide_eq_true_iff] at h1
      exact .inr h1
  unfold nxB
  rw [hi, ht, e1]
  rcases hcase with rfl | hs | ⟨rfl, hok⟩
  · rw [if_neg (by omega), if_neg (by omega), if_neg (by omega), if_neg (by omega), if_neg (by decide), if_pos (show ((45 : Nat) : Int) = 45 from rfl)]
    refine if_pos ?_
    exact ⟨hcnt, by rcases hcdc with hh | hh; exact hh; exact absurd rfl hh, hw, rfl⟩
  · have hs' : (97 ≤ c ∧ c ≤ 122) ∨ (65 ≤ c ∧ c ≤ 90) ∨ c = 95 ∨ 128 ≤ c := of_decide_eq_true hs
    rw [if_neg (by omega), if_neg (by omega), if_neg (by omega), if_neg (by omega), if_neg (by unfold dgB; simp; omega), if_neg (by omega), if_neg (by omega), if_pos (by rw [ns_nat c hc1]; exact hs), if_pos rfl]
  · rw [if_neg (by omega), if_neg (by omega), if_neg (by omega), if_neg (by omega), if_neg (by decide), if_neg (by omega), if_pos (show ((92 : Nat) : Int) = 92 from rfl)]
    refine if_pos ?_
    exact ⟨by rw [vescB_encs 92 t h]; exact decide_eq_true ⟨rfl, hok⟩, rfl⟩

/-- **A written identifier.** -/
theorem nx_identC (l : List Nat) (h : ∀ c ∈ l, Cp c) (hne : l ≠ []) : nxB (encs (identC l)) = some (29, 0, 0, []) := by
  have hb := begins_identC false l h hne (fun hh => by cases hh) [] (by decide)
  rw [List.append_nil] at hb
  have hn := nameS_identC l h []
  rw [List.append_nil, nameS_nil] at hn
  have hs : namedS (identC l) = (⟨29, 0, false, l⟩, [], false) := by
    unfold namedS
    rw [hn]
    simp
  rw [nxB_ident _ (identC_cp l h) false hb (by rw [hs]) (by rw [hs]; show (29 : Nat) ≠ 3; decide), hs]
  rfl
/-- **A written identifier ahead of a bracket.** -/
theorem nx_function (l : List Nat) (h : ∀ c ∈ l, Cp c) (hne : l ≠ []) (hu : isUrlC l = false) : nxB (encs (identC l ++ [40])) = some (27, 0, 0, []) := by
  have hb := begins_identC false l h hne (fun hh => by cases hh) [40] (by decide)
  have hn := nameS_identC l h [40]
  rw [nameS_paren, List.append_nil] at hn
  have hcp : ∀ c ∈ identC l ++ [40], Cp c := by
    intro c hc
    rcases List.mem_append.1 hc with hc | hc
    · exact identC_cp l h c hc
    · simp at hc; subst hc; unfold Cp; omega
  have hs : namedS (identC l ++ [40]) = (⟨27, 0, false, l⟩, [], false) := by
    unfold namedS
    rw [hn]
    dsimp only
    rw [if_neg (by simp), if_neg (by rw [hu]; simp)]
  rw [nxB_ident _ hcp false hb (by rw [hs]) (by rw [hs]; show (27 : Nat) ≠ 3; decide), hs]
  rfl
/-- **A written address.** -/
theorem nx_address (l : List Nat) (h : ∀ c ∈ l, Cp c) (ht : trimC l = true) : nxB (encs (117 :: 114 :: 108 :: 40 :: (addrC l ++ [41]))) = some (37, 0, 0, []) := by
  have hcp : ∀ c ∈ 117 :: 114 :: 108 :: 40 :: (addrC l ++ [41]), Cp c := by
    intro c hc
    simp only [List.mem_cons, List.mem_append, List.not_mem_nil, or_false] at hc
    rcases hc with rfl | rfl | rfl | rfl | hc | rfl
    · unfold Cp; omega
    · unfold Cp; omega
    · unfold Cp; omega
    · unfold Cp; omega
    · exact addrC_cp l h c hc
    · unfold Cp; omega
  have hb : Begins false (117 :: 114 :: 108 :: 40 :: (addrC l ++ [41])) := begins_starts false _ (by decide) (fun hh => by cases hh)
  have hn : nameS (117 :: 114 :: 108 :: 40 :: (addrC l ++ [41])) = ([117, 114, 108], 40 :: (addrC l ++ [41]), false) := by
    rw [nameS_conts 117 _ (by decide), nameS_conts 114 _ (by decide), nameS_conts 108 _ (by decide), nameS_paren]
  have hsp : spS (addrC l ++ [41]) = addrC l ++ [41] ∧ cpAt (addrC l ++ [41]) 0 ≠ 34 ∧ cpAt (addrC l ++ [41]) 0 ≠ 39 := by
    cases hx : addrC l ++ [41] with
    | nil => exact ⟨rfl, by decide, by decide⟩
    | cons c u =>
      obtain ⟨h1, h2, h3⟩ := addrC_first l [] h c u hx
      exact ⟨by rw [spS_cons, if_neg (by rw [h1]; decide)], by rw [cpAt_zero_cons]; omega, by rw [cpAt_zero_cons]; omega⟩
  have hs : namedS (117 :: 114 :: 108 :: 40 :: (addrC l ++ [41])) = (⟨37, 0, false, l⟩, [], false) := by
    unfold namedS
    rw [hn]
    dsimp only
    rw [if_neg (by simp), hsp.1, if_pos ⟨by decide, hsp.2⟩]
    unfold addrS
    rw [urlS_addrC l h []]
    have hb : blen (117 :: 114 :: 108 :: 40 :: (addrC l ++ [41])) - blen (40 :: (addrC l ++ [41])) = 3 := by
      unfold blen
      rw [encs_cons 117, encs_cons 114, encs_cons 108, enc_ascii 117 (by omega), enc_ascii 114 (by omega), enc_ascii 108 (by omega)]
      simp only [List.length_append, List.length_cons, List.length_nil]
      omega
    rw [hb]
    simp [ht]
  rw [nxB_ident _ hcp false hb (by rw [hs]) (by rw [hs]; show (37 : Nat) ≠ 3; decide), hs]
  rfl

/-! ### behind a sign -/
theorem cps_cons {c : Nat} {l : List Nat} (hc : Cp c) (h : ∀ d ∈ l, Cp d) : ∀ d ∈ c :: l, Cp d := by
  intro d hd
  rcases List.mem_cons.1 hd with rfl | hd
  · exact hc
  · exact h d hd
theorem begins_would {l : List Nat} {x : Bool} (h : ∀ c ∈ l, Cp c) (hb : Begins x l) : wouldB (encs l) = true := by
  obtain ⟨c, t, rfl, h1, _⟩ := hb
  rw [wouldB_encs _ h]; exact h1
/-- **A written identifier behind an at sign.** -/
theorem nx_at (l : List Nat) (h : ∀ c ∈ l, Cp c) (hne : l ≠ []) : nxB (encs (64 :: identC l)) = some (1, 0, 0, []) := by
  have h64 : Cp 64 := by unfold Cp; omega
  have hb := begins_identC false l h hne (fun hh => by cases hh) [] (by decide)
  rw [List.append_nil] at hb
  have hn := nameS_identC l h []
  rw [List.append_nil, nameS_nil] at hn
  unfold nxB
  rw [hd_encs 64 _ h64, tl_encs 64 _ h64, if_neg (by omega), if_neg (by omega), if_neg (by omega), if_pos (by rfl), if_pos (begins_would (identC_cp l h) hb), (name_encs _ (identC_cp l h) (by rw [hn])).1, hn]
  rfl
/-- A name behind a number sign. -/
theorem nx_hash (m : List Nat) (h : ∀ c ∈ m, Cp c) (l : List Nat) (hn : nameS m = (l, [], false)) (hb : ∃ c t, m = c :: t ∧ (conts c = true ∨ (c = 92 ∧ escOk t = true))) :
    nxB (encs (35 :: m)) = some (28, 0, if wouldB (encs m) = true then 1 else 0, []) := by
  have h35 : Cp 35 := by unfold Cp; omega
  unfold nxB
  rw [hd_encs 35 _ h35, tl_encs 35 _ h35, if_neg (by omega), if_pos (by rfl), if_pos (by
    obtain ⟨c, t, rfl, hc | hc⟩ := hb
    · left; rw [hd_encs c t (h c (by simp)), nc_nat c (h c (by simp)).1]; exact hc
    · right; rw [vescB_encs c t h]; exact decide_eq_true hc), (name_encs m h (by rw [hn])).1, hn]
  rfl
/-- A number of digits with a written unit. -/
theorem nx_dim (ds l : List Nat) (hd : ∀ d ∈ ds, isDg d = true) (hne : ds ≠ []) (h : ∀ c ∈ l, Cp c) (hl : l ≠ []) : nxB (encs (ds ++ unitC l)) = some (26, ds.length, 0, []) := by
  have hcp : ∀ c ∈ ds ++ unitC l, Cp c := by
    intro c hc
    rcases List.mem_append.1 hc with hc | hc
    · have : 48 ≤ c ∧ c ≤ 57 := of_decide_eq_true (hd c hc)
      unfold Cp; omega
    · exact unitC_cp l h c hc
  have hs := numericS_dim ds l hd hne h hl
  have hn := numericB_encs _ hcp (by rw [hs])
  rw [hs] at hn
  cases ds with
  | nil => exact absurd rfl hne
  | cons d u =>
    have hd1 : 48 ≤ d ∧ d ≤ 57 := of_decide_eq_true (hd d (by simp))
    have e1 : hdB (encs (d :: u ++ unitC l)) = (d : Int) := hd_encs d _ (hcp d (by simp))
    unfold nxB
    rw [e1, if_neg (by omega), if_neg (by omega), if_neg (by omega), if_neg (by omega), if_pos (by unfold dgB; simp; omega), hn]
    rfl
/-- **A text in quotes.** -/
theorem nx_quoted (q : Nat) (hq : q = 34 ∨ q = 39) (l : List Nat) (h : ∀ c ∈ l, Cp c) : nxB (encs (q :: (quoteC q l ++ [q]))) = some (36, 0, 0, []) := by
  have hqc : Cp q := by unfold Cp; omega
  have hcp : ∀ c ∈ quoteC q l ++ [q], Cp c := by
    intro c hc
    rcases List.mem_append.1 hc with hc | hc
    · exact quoteC_cp q l h c hc
    · simp at hc; subst hc; exact hqc
  have hs := quotS_quoteC q hq l h []
  have := strB_encs q hq _ (quoteC q l ++ [q]) (Nat.le_refl _) hcp (by rw [hs])
  rw [hs] at this
  unfold nxB
  rw [hd_encs q _ hqc, tl_encs q _ hqc, if_pos (by omega), this]
  rfl
end Go.Proofs.YtmgkccnfhkcncaaGreatDoor
