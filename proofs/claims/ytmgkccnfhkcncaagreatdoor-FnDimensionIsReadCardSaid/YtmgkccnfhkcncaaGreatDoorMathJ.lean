/-
  Plain Lean, no program: written names, texts in quotes and addresses, as the standard reads them.
-/
import Derived.Test.YtmgkccnfhkcncaaGreatDoorMathG
namespace Go.Proofs.YtmgkccnfhkcncaaGreatDoor
open Go

theorem hex_notNl {d x : Nat} (h : hexv d = some x) : isNl d = false := by
  have := hexv_ascii h
  simp [isNl]; omega
/-- An escape of digits and a blank, behind its backslash. -/
theorem coded_form (least c : Nat) (h : Cp c) (hl : least ≤ 6) (r : List Nat) : ∃ d t, digs least c ++ 32 :: r = d :: t ∧ isNl d = false ∧ escS (d :: t) = (c, r, false) := by
  have hc : c ≤ 1114111 := by unfold Cp at h; omega
  obtain ⟨d, t, hd⟩ := digs_ne least c h.1
  have hh := digs_hex least c
  have hv := digs_val least c
  have hle := digs_len least c hc hl
  rw [hd] at hh hv hle
  obtain ⟨x, hx⟩ := hh d (by simp)
  have hr := hexRunC_digits 5 x t (32 :: r) (fun e he => hh e (by simp [he])) (by simp only [List.length_cons] at hle; omega) (by intro e u he; simp at he; rw [← he.1]; rfl)
  have hxv : val x t = c := by rw [val_cons, hx] at hv; simpa using hv
  refine ⟨d, t ++ 32 :: r, by rw [hd]; rfl, hex_notNl hx, ?_⟩
  rw [escS_some _ hx, hr]
  dsimp only
  rw [hxv, fix_self c h, escTail_cons, if_neg (by decide), if_pos (by decide)]
theorem codedC_app (least c : Nat) (r : List Nat) : codedC least c ++ r = 92 :: (digs least c ++ 32 :: r) := by simp [codedC]

/-! ### names -/
theorem nameS_coded (least c : Nat) (h : Cp c) (hl : least ≤ 6) (r : List Nat) : nameS (codedC least c ++ r) = (c :: (nameS r).1, (nameS r).2.1, (nameS r).2.2) := by
  obtain ⟨d, t, h1, h2, h3⟩ := coded_form least c h hl r
  rw [codedC_app, h1, nameS_esc _ (by show (!isNl d) = true; rw [h2]; rfl), h3]
  rfl
theorem nameS_back (c : Nat) (r : List Nat) (hx : hexv c = none) (hn : isNl c = false) : nameS (92 :: c :: r) = (c :: (nameS r).1, (nameS r).2.1, (nameS r).2.2) := by
  rw [nameS_esc _ (by show (!isNl c) = true; rw [hn]; rfl), escS_none r hx]
  rfl
theorem idChar_bk {dig lone : Bool} {c : Nat} (hl : lone = true → c = 45) (h1 : ¬ (isCtl c = true ∨ (isDg c = true ∧ dig = true))) (h2 : ¬ (conts c = true ∧ lone = false)) (hc : 1 ≤ c) : hexv c = none ∧ isNl c = false := by
  have hc' : ¬ ((1 ≤ c ∧ c ≤ 31) ∨ c = 127) := fun hh => h1 (.inl (decide_eq_true hh))
  refine ⟨?_, by simp [isNl]; omega⟩
  cases lone with
  | true => rw [hl rfl]; rfl
  | false =>
    have h3 : ¬ ((97 ≤ c ∧ c ≤ 122) ∨ (65 ≤ c ∧ c ≤ 90) ∨ c = 95 ∨ 128 ≤ c ∨ (48 ≤ c ∧ c ≤ 57) ∨ c = 45) := fun hh => h2 ⟨decide_eq_true hh, rfl⟩
    exact hexv_none (by omega)
theorem nameS_idChar (dig lone : Bool) (c : Nat) (h : Cp c) (hl : lone = true → c = 45) (r : List Nat) : nameS (idChar dig lone c ++ r) = (c :: (nameS r).1, (nameS r).2.1, (nameS r).2.2) := by
  unfold idChar
  by_cases h1 : isCtl c = true ∨ (isDg c = true ∧ dig = true)
  · rw [if_pos h1]; exact nameS_coded 1 c h (by omega) r
  · rw [if_neg h1]
    by_cases h2 : conts c = true ∧ lone = false
    · rw [if_pos h2]; exact nameS_conts c r h2.1
    · rw [if_neg h2]
      obtain ⟨hx, hn⟩ := idChar_bk hl h1 h2 h.1
      exact nameS_back c r hx hn
theorem idRest_cons (lone : Bool) (c : Nat) (t : List Nat) : idRest lone (c :: t) = idChar false lone c ++ idRest lone t := by simp [idRest]
theorem nameS_idRest : ∀ (l : List Nat), (∀ c ∈ l, Cp c) → ∀ r, nameS (idRest false l ++ r) = (l ++ (nameS r).1, (nameS r).2.1, (nameS r).2.2)
  | [], _, _ => rfl
  | c :: t, h, r => by
    rw [idRest_cons, List.append_assoc, nameS_idChar false false c (h c (by simp)) (by simp), nameS_idRest t (fun d hd => h d (by simp [hd])) r]
    rfl
theorem nameS_nameC (l : List Nat) (h : ∀ c ∈ l, Cp c) (r : List Nat) : nameS (nameC l ++ r) = (l ++ (nameS r).1, (nameS r).2.1, (nameS r).2.2) := nameS_idRest l h r
theorem nameS_identC (l : List Nat) (h : ∀ c ∈ l, Cp c) (r : List Nat) : nameS (identC l ++ r) = (l ++ (nameS r).1, (nameS r).2.1, (nameS r).2.2) := by
  match l, h with
  | [], _ => rfl
  | [c], h => exact nameS_idChar true (c == 45) c (h c (by simp)) (by simp) r
  | c :: d :: t, h =>
    show nameS ((idChar true false c ++ idChar (c == 45) false d ++ idRest false t) ++ r) = _
    rw [List.append_assoc, List.append_assoc, nameS_idChar true false c (h c (by simp)) (by simp), nameS_idChar (c == 45) false d (h d (by simp)) (by simp), nameS_idRest t (fun e he => h e (by simp [he])) r]
    rfl
theorem nameS_unitC (l : List Nat) (h : ∀ c ∈ l, Cp c) (r : List Nat) : nameS (unitC l ++ r) = (l ++ (nameS r).1, (nameS r).2.1, (nameS r).2.2) := by
  match l, h with
  | [], _ => rfl
  | c :: t, h =>
    rw [unitC_cons]
    by_cases he : c = 101 ∨ c = 69
    · rw [if_pos he, List.append_assoc, nameS_coded 1 c (h c (by simp)) (by omega), nameS_nameC t (fun d hd => h d (by simp [hd])) r]
      rfl
    · rw [if_neg he]; exact nameS_identC _ h r
theorem nameS_paren (r : List Nat) : nameS (40 :: r) = ([], 40 :: r, false) := nameS_stop 40 r (by decide) (by simp)

/-! ### how a written name begins -/
/-- It begins an identifier, no number, and no -->; x: and no exponent. -/
def Begins (x : Bool) (l : List Nat) : Prop := ∃ c t, l = c :: t ∧ identZ (c : Int) (cpAt t 0) (cpAt t 1) = true ∧ countZ (c : Int) (cpAt t 0) (cpAt t 1) = false ∧ ¬ (c = 45 ∧ cpAt t 0 = 45 ∧ cpAt t 1 = 62) ∧ (x = true → c ≠ 101 ∧ c ≠ 69)
theorem begins_esc (x : Bool) {d : Nat} (t : List Nat) (h : isNl d = false) : Begins x (92 :: d :: t) := by
  refine ⟨92, d :: t, rfl, ?_, ?_, by omega, fun _ => by omega⟩
  · unfold identZ
    rw [if_neg (by decide), Bool.or_eq_true]
    right
    rw [show ((92 : Nat) : Int) = ((92 : Nat) : Int) from rfl, escZ_ok, decide_eq_true_eq]
    exact ⟨rfl, by show (!isNl d) = true; rw [h]; rfl⟩
  · unfold countZ
    rw [if_neg (by decide)]
    simp [dgB]
theorem begins_coded (x : Bool) (least c : Nat) (h : Cp c) (hl : least ≤ 6) (r : List Nat) : Begins x (codedC least c ++ r) := by
  obtain ⟨d, t, h1, h2, _⟩ := coded_form least c h hl r
  rw [codedC_app, h1]
  exact begins_esc x t h2
theorem begins_starts (x : Bool) {c : Nat} (t : List Nat) (h : starts c = true) (he : x = true → c ≠ 101 ∧ c ≠ 69) : Begins x (c :: t) := by
  have h' : (97 ≤ c ∧ c ≤ 122) ∨ (65 ≤ c ∧ c ≤ 90) ∨ c = 95 ∨ 128 ≤ c := of_decide_eq_true h
  refine ⟨c, t, rfl, ?_, ?_, by omega, he⟩
  · unfold identZ
    rw [if_neg (by omega), ss_nat, h, Bool.true_or]
  · unfold countZ
    rw [if_neg (by omega)]
    have h1 : dgB (c : Int) = false := by unfold dgB; simp; omega
    have h2 : decide ((c : Int) = 46) = false := decide_eq_false (by omega)
    rw [h1, h2]; rfl
/-- Behind a hyphen. -/
theorem begins_hyphen (x : Bool) {d : Nat} {t : List Nat} (h : starts d = true ∨ d = 45 ∨ (d = 92 ∧ escOk t = true)) (h62 : d = 45 → cpAt t 0 ≠ 62) : Begins x (45 :: d :: t) := by
  have hd : ¬ (48 ≤ d ∧ d ≤ 57) ∧ d ≠ 46 := by
    rcases h with h | rfl | ⟨rfl, _⟩
    · have h' : (97 ≤ d ∧ d ≤ 122) ∨ (65 ≤ d ∧ d ≤ 90) ∨ d = 95 ∨ 128 ≤ d := of_decide_eq_true h
      omega
    · omega
    · omega
  refine ⟨45, d :: t, rfl, ?_, ?_, ?_, fun _ => by omega⟩
  · unfold identZ
    rw [if_pos (by decide), cpAt_zero_cons, cpAt_succ_cons, ss_nat, escZ_ok]
    rcases h with h | rfl | h
    · rw [h]; rfl
    · simp
    · rw [decide_eq_true h]; simp
  · unfold countZ
    rw [if_pos (by decide), cpAt_zero_cons]
    have h1 : dgB (d : Int) = false := by unfold dgB; simp; omega
    have h2 : decide ((d : Int) = 46) = false := decide_eq_false (by omega)
    rw [h1, h2]; rfl
  · rw [cpAt_zero_cons, cpAt_succ_cons]
    rintro ⟨_, h1, h2⟩
    exact h62 (by omega) h2
theorem conts_cases {c : Nat} (h : conts c = true) : starts c = true ∨ isDg c = true ∨ c = 45 := by
  have h' : (97 ≤ c ∧ c ≤ 122) ∨ (65 ≤ c ∧ c ≤ 90) ∨ c = 95 ∨ 128 ≤ c ∨ (48 ≤ c ∧ c ≤ 57) ∨ c = 45 := of_decide_eq_true h
  by_cases h1 : (97 ≤ c ∧ c ≤ 122) ∨ (65 ≤ c ∧ c ≤ 90) ∨ c = 95 ∨ 128 ≤ c
  · exact .inl (decide_eq_true h1)
  · by_cases h2 : 48 ≤ c ∧ c ≤ 57
    · exact .inr (.inl (decide_eq_true h2))
    · exact .inr (.inr (by omega))
/-- How one written code point begins. -/
theorem idChar_form (dig lone : Bool) (c : Nat) (h : Cp c) (hl : lone = true → c = 45) (r : List Nat) : (∃ d t, idChar dig lone c ++ r = 92 :: d :: t ∧ isNl d = false) ∨ (idChar dig lone c ++ r = c :: r ∧ conts c = true ∧ lone = false ∧ ¬ (isDg c = true ∧ dig = true)) := by
  unfold idChar
  by_cases h1 : isCtl c = true ∨ (isDg c = true ∧ dig = true)
  · rw [if_pos h1]
    obtain ⟨d, t, h2, h3, _⟩ := coded_form 1 c h (by omega) r
    exact .inl ⟨d, t, by rw [codedC_app, h2], h3⟩
  · rw [if_neg h1]
    by_cases h2 : conts c = true ∧ lone = false
    · rw [if_pos h2]
      exact .inr ⟨rfl, h2.1, h2.2, fun hh => h1 (.inr hh)⟩
    · rw [if_neg h2]
      exact .inl ⟨c, r, rfl, (idChar_bk hl h1 h2 h.1).2⟩
theorem begins_identC (x : Bool) (l : List Nat) (h : ∀ c ∈ l, Cp c) (hne : l ≠ []) (he : x = true → l.head? ≠ some 101 ∧ l.head? ≠ some 69) (r : List Nat) (hr : cpAt r 0 ≠ 62) : Begins x (identC l ++ r) := by
  match l, h, hne, he with
  | [c], h, _, he =>
    show Begins x (idChar true (c == 45) c ++ r)
    rcases idChar_form true (c == 45) c (h c (by simp)) (by simp) r with ⟨d, t, h1, h2⟩ | ⟨h1, h2, h3, h4⟩
    · rw [h1]; exact begins_esc x t h2
    · rw [h1]
      rcases conts_cases h2 with hs | hs | rfl
      · exact begins_starts x r hs fun hx => ⟨fun e => (he hx).1 (by simp [e]), fun e => (he hx).2 (by simp [e])⟩
      · exact absurd ⟨hs, rfl⟩ h4
      · simp at h3
  | c :: d :: t, h, _, he =>
    show Begins x ((idChar true false c ++ idChar (c == 45) false d ++ idRest false t) ++ r)
    rw [List.append_assoc, List.append_assoc]
    rcases idChar_form true false c (h c (by simp)) (by simp) (idChar (c == 45) false d ++ (idRest false t ++ r)) with ⟨e, u, h1, h2⟩ | ⟨h1, h2, _, h4⟩
    · rw [h1]; exact begins_esc x u h2
    · rw [h1]
      rcases conts_cases h2 with hs | hs | rfl
      · exact begins_starts x _ hs fun hx => ⟨fun e => (he hx).1 (by simp [e]), fun e => (he hx).2 (by simp [e])⟩
      · exact absurd ⟨hs, rfl⟩ h4
      · rcases idChar_form true false d (h d (by simp)) (by simp) (idRest false t ++ r) with ⟨e, u, h5, h6⟩ | ⟨h5, h6, _, h7⟩
        · rw [show ((45 : Nat) == 45) = true from rfl, h5]
          exact begins_hyphen x (.inr (.inr ⟨rfl, by show (!isNl e) = true; rw [h6]; rfl⟩)) (by omega)
        · rw [show ((45 : Nat) == 45) = true from rfl, h5]
          rcases conts_cases h6 with hs | hs | rfl
          · exact begins_hyphen x (.inl hs) (by rintro rfl; exact absurd hs (by decide))
          · exact absurd ⟨hs, rfl⟩ h7
          · refine begins_hyphen x (.inr (.inl rfl)) fun _ => ?_
            cases t with
            | nil => exact hr
            | cons e u =>
              rw [idRest_cons, List.append_assoc]
              rcases idChar_form false false e (h e (by simp)) (by simp) (idRest false u ++ r) with ⟨f, v, h8, _⟩ | ⟨h8, h9, _⟩
              · rw [h8, cpAt_zero_cons]; decide
              · rw [h8, cpAt_zero_cons]
                intro h10
                have : e = 62 := by omega
                subst this
                exact absurd h9 (by decide)
theorem begins_unitC (l : List Nat) (h : ∀ c ∈ l, Cp c) (hne : l ≠ []) (r : List Nat) (hr : cpAt r 0 ≠ 62) : Begins true (unitC l ++ r) := by
  match l, h, hne with
  | c :: t, h, _ =>
    rw [unitC_cons]
    by_cases he : c = 101 ∨ c = 69
    · rw [if_pos he, List.append_assoc]
      exact begins_coded true 1 c (h c (by simp)) (by omega) _
    · rw [if_neg he]
      exact begins_identC true _ h (by simp) (fun _ => ⟨by simp; omega, by simp; omega⟩) r hr

/-! ### texts in quotes -/
theorem quotS_quoteC (q : Nat) (hq : q = 34 ∨ q = 39) : ∀ (l : List Nat), (∀ c ∈ l, Cp c) → ∀ r, quotS q (quoteC q l ++ q :: r) = (true, l, r, false)
  | [], _, r => quotS_end q r
  | c :: t, h, r => by
    have hc := h c (by simp)
    have e : quoteC q (c :: t) = quoteChar q c ++ quoteC q t := by simp [quoteC]
    have ih := quotS_quoteC q hq t (fun d hd => h d (by simp [hd])) r
    rw [e, List.append_assoc]
    unfold quoteChar
    by_cases h1 : isCtl c = true
    · obtain ⟨d, u, h2, h3, h4⟩ := coded_form 1 c hc (by omega) (quoteC q t ++ q :: r)
      rw [if_pos h1, codedC_app, h2, quotS_esc q d u (by omega) h3, h4, ih]
      rfl
    · rw [if_neg h1]
      have hc' : ¬ ((1 ≤ c ∧ c ≤ 31) ∨ c = 127) := fun hh => h1 (decide_eq_true hh)
      have := hc.1
      by_cases h2 : c = q ∨ c = 92
      · rw [if_pos h2]
        have hx : hexv c = none := hexv_none (by omega)
        have hn : isNl c = false := by simp [isNl]; omega
        show quotS q (92 :: c :: (quoteC q t ++ q :: r)) = _
        rw [quotS_esc q c _ (by omega) hn, escS_none _ hx, ih]
        rfl
      · rw [if_neg h2]
        show quotS q (c :: (quoteC q t ++ q :: r)) = _
        rw [quotS_plain q c _ (by omega) (by simp [isNl]; omega) (by omega), ih]

/-! ### addresses -/
/-- One code point of an address. -/
def addrChar (c : Nat) : List Nat := if isCtl c = true then codedC 1 c else if isWs c = true ∨ c = 34 ∨ c = 39 ∨ c = 40 ∨ c = 41 ∨ c = 92 then [92, c] else [c]
/-- spec.Address, between the brackets. -/
def addrC (l : List Nat) : List Nat := l.flatMap addrChar
theorem addrC_cons (c : Nat) (t : List Nat) : addrC (c :: t) = addrChar c ++ addrC t := by simp [addrC]
theorem urlS_addrC : ∀ (l : List Nat), (∀ c ∈ l, Cp c) → ∀ r, urlS (addrC l ++ 41 :: r) = (true, l, r, false)
  | [], _, r => urlS_end r
  | c :: t, h, r => by
    have hc := h c (by simp)
    have ih := urlS_addrC t (fun d hd => h d (by simp [hd])) r
    rw [addrC_cons, List.append_assoc]
    unfold addrChar
    by_cases h1 : isCtl c = true
    · obtain ⟨d, u, h2, h3, h4⟩ := coded_form 1 c hc (by omega) (addrC t ++ 41 :: r)
      rw [if_pos h1, codedC_app, h2, urlS_esc _ (by show (!isNl d) = true; rw [h3]; rfl), h4, ih]
      rfl
    · rw [if_neg h1]
      have hc' : ¬ ((1 ≤ c ∧ c ≤ 31) ∨ c = 127) := fun hh => h1 (decide_eq_true hh)
      have := hc.1
      by_cases h2 : isWs c = true ∨ c = 34 ∨ c = 39 ∨ c = 40 ∨ c = 41 ∨ c = 92
      · rw [if_pos h2]
        have hw : c = 32 ∨ c = 34 ∨ c = 39 ∨ c = 40 ∨ c = 41 ∨ c = 92 := by
          rcases h2 with h2 | h2
          · simp [isWs] at h2; omega
          · omega
        have hx : hexv c = none := hexv_none (by omega)
        have hn : isNl c = false := by simp [isNl]; omega
        show urlS (92 :: c :: (addrC t ++ 41 :: r)) = _
        rw [urlS_esc _ (by show (!isNl c) = true; rw [hn]; rfl), escS_none _ hx, ih]
        rfl
      · rw [if_neg h2]
        have hw : isWs c = false := by
          cases hw : isWs c
          · rfl
          · exact absurd (.inl hw) h2
        show urlS (c :: (addrC t ++ 41 :: r)) = _
        have hs : spoils c (addrC t ++ 41 :: r) = false := by
          unfold spoils
          refine decide_eq_false ?_
          rintro (h3 | h3 | h3 | h3 | h3)
          · exact h2 (.inr (.inl h3))
          · exact h2 (.inr (.inr (.inl h3)))
          · exact h2 (.inr (.inr (.inr (.inl h3))))
          · omega
          · exact h2 (.inr (.inr (.inr (.inr (.inr h3.1)))))
        rw [urlS_plain c _ (fun h3 => h2 (.inr (.inr (.inr (.inr (.inl h3)))))) hw hs (fun h3 => h2 (.inr (.inr (.inr (.inr (.inr h3)))))), ih]
theorem addrC_cp (l : List Nat) (h : ∀ c ∈ l, Cp c) : ∀ d ∈ addrC l, Cp d := by
  intro d hd
  unfold addrC at hd
  rw [List.mem_flatMap] at hd
  obtain ⟨c, hc, hd⟩ := hd
  unfold addrChar at hd
  by_cases h1 : isCtl c = true
  · rw [if_pos h1] at hd; exact codedC_cp 1 c d hd
  · rw [if_neg h1] at hd
    split at hd
    · simp at hd
      rcases hd with rfl | rfl
      · exact ⟨by omega, by omega⟩
      · exact h _ hc
    · simp at hd; subst hd; exact h _ hc
/-- How an address begins. -/
theorem addrC_first (l r : List Nat) (h : ∀ c ∈ l, Cp c) : ∀ c u, addrC l ++ 41 :: r = c :: u → isWs c = false ∧ c ≠ 34 ∧ c ≠ 39 := by
  intro c u e
  cases l with
  | nil => injection e with e1 _; subst e1; decide
  | cons d t =>
    rw [addrC_cons, List.append_assoc] at e
    unfold addrChar at e
    by_cases h1 : isCtl d = true
    · rw [if_pos h1, codedC_app] at e; injection e with e1 _; subst e1; decide
    · rw [if_neg h1] at e
      split at e
      · injection e with e1 _; subst e1; decide
      · rename_i h2
        injection e with e1 _; subst e1
        refine ⟨?_, fun h3 => h2 (.inr (.inl h3)), fun h3 => h2 (.inr (.inr (.inl h3)))⟩
        cases hw : isWs d
        · rfl
        · exact absurd (.inl hw) h2

/-! ### a number of digits, and a unit -/
theorem dgS_digits : ∀ (ds r : List Nat), (∀ d ∈ ds, isDg d = true) → (∀ c u, r = c :: u → isDg c = false) → dgS (ds ++ r) = r
  | [], r, _, hr => by
    cases r with
    | nil => rfl
    | cons c u => show dgS (c :: u) = _; rw [dgS_cons, if_neg (by rw [hr c u rfl]; decide)]
  | d :: ds, r, h, hr => by
    show dgS (d :: (ds ++ r)) = _
    rw [dgS_cons, if_pos (h d (by simp)), dgS_digits ds r (fun e he => h e (by simp [he])) hr]
theorem encs_digits (ds : List Nat) (h : ∀ d ∈ ds, isDg d = true) : (encs ds).length = ds.length := by
  induction ds with
  | nil => rfl
  | cons d t ih =>
    have hd : 48 ≤ d ∧ d ≤ 57 := of_decide_eq_true (h d (by simp))
    rw [encs_cons, List.length_append, ih fun e he => h e (by simp [he]), enc_ascii d (by omega)]
    simp; omega
theorem numS_dim (ds r : List Nat) (hd : ∀ d ∈ ds, isDg d = true) (hne : ds ≠ []) (hr : Begins true r) : numS (ds ++ r) = (r, false) ∧ identZ (cpAt r 0) (cpAt r 1) (cpAt r 2) = true := by
  obtain ⟨c, t, rfl, h1, h2, h3, h45⟩ := hr
  obtain ⟨h4, h5⟩ := h45 rfl
  have hc : isDg c = false := by
    cases hcd : isDg c
    · rfl
    · exfalso
      have : 48 ≤ c ∧ c ≤ 57 := of_decide_eq_true hcd
      unfold countZ at h2
      rw [if_neg (by omega)] at h2
      have : dgB (c : Int) = true := by unfold dgB; simp; omega
      rw [this] at h2
      simp at h2
  have h46 : c ≠ 46 := by
    rintro rfl
    unfold identZ at h1
    rw [if_neg (by decide), ss_nat, escZ_ok] at h1
    rcases Bool.or_eq_true_iff.1 h1 with h1 | h1
    · exact absurd h1 (by decide)
    · exact absurd (of_decide_eq_true h1).1 (by decide)
  refine ⟨?_, h1⟩
  unfold numS
  have hs : signS (ds ++ c :: t) = ds ++ c :: t := by
    cases ds with
    | nil => exact absurd rfl hne
    | cons d u =>
      have : 48 ≤ d ∧ d ≤ 57 := of_decide_eq_true (hd d (by simp))
      exact if_neg (by omega)
  rw [hs, dgS_digits ds (c :: t) hd (by intro e u he; injection he with he _; subst he; exact hc)]
  have hp : pointS (c :: t) = (c :: t, false) := if_neg h46
  rw [hp]
  dsimp only
  have hx : expS (c :: t) = c :: t := if_neg (by omega)
  rw [hx]
theorem numericS_dim (ds l : List Nat) (hd : ∀ d ∈ ds, isDg d = true) (hne : ds ≠ []) (h : ∀ c ∈ l, Cp c) (hl : l ≠ []) : numericS (ds ++ unitC l) = (⟨26, ds.length, false, []⟩, [], false) := by
  have hb := begins_unitC l h hl [] (by decide)
  rw [List.append_nil] at hb
  obtain ⟨h1, h2⟩ := numS_dim ds (unitC l) hd hne hb
  have h3 := nameS_unitC l h []
  rw [List.append_nil, nameS_nil] at h3
  unfold numericS
  rw [h1]
  dsimp only
  rw [if_pos h2, h3]
  have h4 : blen (ds ++ unitC l) - blen (unitC l) = ds.length := by
    unfold blen
    rw [encs_append, List.length_append, encs_digits ds hd]
    omega
  rw [h4]
  rfl
end Go.Proofs.YtmgkccnfhkcncaaGreatDoor
