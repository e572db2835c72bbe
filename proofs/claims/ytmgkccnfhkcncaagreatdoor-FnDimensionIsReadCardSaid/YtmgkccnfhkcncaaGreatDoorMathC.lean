/-
  Plain Lean, no program: how the reference writes names, strings, units, escapes; that what is written is decoded as it was.
-/
import Derived.Test.YtmgkccnfhkcncaaGreatDoorMathB
namespace Go.Proofs.YtmgkccnfhkcncaaGreatDoor
open Go

def hexDig (n : Nat) : Nat := if n < 10 then 48 + n else 87 + n
theorem hexv_hexDig (n : Nat) (h : n < 16) : hexv (hexDig n) = some n := by
  unfold hexv hexDig
  by_cases h10 : n < 10
  · rw [if_pos h10, if_pos (by omega)]; congr 1; omega
  · rw [if_neg h10, if_neg (by omega), if_pos (by omega)]; congr 1; omega

/-- The loop over digits: c is what is left, ds what stands already. -/
def digF : Nat → Nat → Nat → List Nat → List Nat
  | 0, _, _, ds => ds
  | f + 1, least, c, ds => if 0 < c ∨ ds.length < least then digF f least (c / 16) (hexDig (c % 16) :: ds) else ds
/-- At least so many digits of c. -/
def digs (least c : Nat) : List Nat := digF (c + least) least c []
/-- A code point as an escape. -/
def codedC (least c : Nat) : List Nat := 92 :: (digs least c ++ [32])

def val (v : Nat) (ds : List Nat) : Nat := ds.foldl (fun v d => v * 16 + (hexv d).getD 0) v
def AllHex (ds : List Nat) : Prop := ∀ d ∈ ds, ∃ x, hexv d = some x

theorem val_cons (v d : Nat) (ds : List Nat) : val v (d :: ds) = val (v * 16 + (hexv d).getD 0) ds := rfl

theorem digF_more : ∀ (f g least c : Nat) (ds : List Nat), c + (least - ds.length) ≤ f → c + (least - ds.length) ≤ g → digF f least c ds = digF g least c ds
  | 0, 0, _, _, _, _, _ => rfl
  | 0, g + 1, least, c, ds, h, _ => by unfold digF; rw [if_neg (by omega)]
  | f + 1, 0, least, c, ds, _, h => by
    conv => lhs; unfold digF
    rw [if_neg (by omega)]; rfl
  | f + 1, g + 1, least, c, ds, hf, hg => by
    unfold digF
    split
    · rename_i h
      have : c / 16 + (least - (hexDig (c % 16) :: ds).length) ≤ f := by simp only [List.length_cons]; omega
      exact digF_more f g least _ _ this (by simp only [List.length_cons]; omega)
    · rfl

theorem digF_hex : ∀ (f least c : Nat) (ds : List Nat), AllHex ds → AllHex (digF f least c ds)
  | 0, _, _, _, h => h
  | f + 1, least, c, ds, h => by
    unfold digF
    split
    · refine digF_hex f least _ _ fun d hd => ?_
      rcases List.mem_cons.1 hd with rfl | hd
      · exact ⟨_, hexv_hexDig _ (Nat.mod_lt _ (by omega))⟩
      · exact h d hd
    · exact h

/-- The value: c stands ahead of ds. -/
theorem digF_val : ∀ (f least c : Nat) (ds : List Nat), c + (least - ds.length) ≤ f → val 0 (digF f least c ds) = val c ds
  | 0, least, c, ds, h => by
    have : c = 0 := by omega
    subst this; rfl
  | f + 1, least, c, ds, h => by
    unfold digF
    split
    · rename_i hc
      rw [digF_val f least _ _ (by simp only [List.length_cons]; omega), val_cons, hexv_hexDig _ (Nat.mod_lt _ (by omega))]
      congr 1
      simp only [Option.getD_some]; omega
    · have : c = 0 := by omega
      subst this; rfl

theorem digF_len : ∀ (f least c : Nat) (ds : List Nat) (k : Nat), c < 16 ^ k → ds.length + k ≤ 6 → least ≤ 6 → ds.length ≤ 6 → (digF f least c ds).length ≤ 6
  | 0, _, _, _, _, _, _, _, h => h
  | f + 1, least, c, ds, k, hc, hk, hl, hd => by
    unfold digF
    split
    · rename_i h
      cases k with
      | zero =>
        have : c = 0 := by simp at hc; exact hc
        subst this
        refine digF_len f least _ _ 0 (by simp) ?_ hl ?_ <;> simp only [List.length_cons] <;> omega
      | succ k =>
        refine digF_len f least _ _ k ?_ ?_ hl ?_
        · rw [Nat.pow_succ] at hc; exact Nat.div_lt_of_lt_mul (by omega)
        · simp only [List.length_cons]; omega
        · simp only [List.length_cons]; omega
    · exact hd

theorem digF_pos : ∀ (f least c : Nat) (ds : List Nat), ds.length ≤ (digF f least c ds).length
  | 0, _, _, _ => Nat.le_refl _
  | f + 1, least, c, ds => by
    unfold digF
    split
    · exact Nat.le_trans (by simp) (digF_pos f least _ (hexDig (c % 16) :: ds))
    · exact Nat.le_refl _

theorem digs_hex (least c : Nat) : AllHex (digs least c) := digF_hex _ _ _ _ (by intro d hd; simp at hd)
theorem digs_val (least c : Nat) : val 0 (digs least c) = c := by
  unfold digs; rw [digF_val _ _ _ _ (by simp)]; rfl
theorem digs_len (least c : Nat) (hc : c ≤ 1114111) (hl : least ≤ 6) : (digs least c).length ≤ 6 :=
  digF_len _ _ _ _ 6 (by omega) (by simp) hl (by simp)
theorem digs_ne (least c : Nat) (hc : 0 < c) : ∃ d t, digs least c = d :: t := by
  have h : 1 ≤ (digs least c).length := by
    unfold digs
    obtain ⟨n, hn⟩ : ∃ n, c + least = n + 1 := ⟨c + least - 1, by omega⟩
    rw [hn]
    unfold digF
    rw [if_pos (Or.inl hc)]
    exact digF_pos n least _ [_]
  cases hd : digs least c with
  | nil => rw [hd] at h; simp at h
  | cons d t => exact ⟨d, t, rfl⟩

/-- Digits, and then what is none. -/
theorem hexRunC_digits : ∀ (n v : Nat) (ds r : List Nat), AllHex ds → ds.length ≤ n → (∀ c t, r = c :: t → hexv c = none) → hexRunC n v (ds ++ r) = (val v ds, r)
  | 0, v, ds, r, _, hn, _ => by
    have : ds = [] := List.eq_nil_of_length_eq_zero (by omega)
    subst this; rfl
  | n + 1, v, [], r, _, _, hr => by
    cases r with
    | nil => rfl
    | cons c t => simp [hexRunC, hr c t rfl, val]
  | n + 1, v, d :: ds, r, ha, hn, hr => by
    obtain ⟨x, hx⟩ := ha d (by simp)
    simp only [List.cons_append, hexRunC, hx, val_cons, Option.getD_some]
    exact hexRunC_digits n _ ds r (fun e he => ha e (by simp [he])) (by simp only [List.length_cons] at hn; omega) hr

theorem fix_self (c : Nat) (h : Cp c) : fix c = c := by unfold Cp at h; unfold fix; rw [if_neg (by omega)]

/-- **An escape of digits and a blank means its code point.** -/
theorem decP_coded (least c : Nat) (h : Cp c) (hl : least ≤ 6) (r : List Nat) : decP (codedC least c ++ r) = c :: decP r := by
  have hc : c ≤ 1114111 := by unfold Cp at h; omega
  obtain ⟨d, t, hd⟩ := digs_ne least c h.1
  have hh := digs_hex least c
  have hv := digs_val least c
  have hle := digs_len least c hc hl
  rw [hd] at hh hv hle
  obtain ⟨x, hx⟩ := hh d (by simp)
  have hr := hexRunC_digits 5 x t (32 :: r) (fun e he => hh e (by simp [he])) (by simp only [List.length_cons] at hle; omega) (by intro e u he; simp at he; rw [← he.1]; rfl)
  have hxv : val x t = c := by rw [val_cons, hx] at hv; simpa using hv
  unfold codedC
  rw [hd]
  have e : (92 :: (d :: t ++ [32]) ++ r) = 92 :: d :: (t ++ 32 :: r) := by simp
  have e2 : escC d (t ++ 32 :: r) = ([c], r) := by
    unfold escC
    rw [hx]
    dsimp only
    rw [hr]
    dsimp only
    rw [hxv, fix_self c h]
    rfl
  rw [e, decP_step _ (by simp), stepC_esc, e2]
  rfl

/-- **A backslash ahead of what is neither a digit nor an end of a line means just this.** -/
theorem decP_back (c : Nat) (r : List Nat) (hx : hexv c = none) (hn : isNl c = false) : decP (92 :: c :: r) = c :: decP r := by
  simp [isNl] at hn
  have e2 : escC c r = ([c], r) := by
    unfold escC
    rw [hx]
    dsimp only
    rw [if_neg (by omega), if_neg (by omega)]
  rw [decP_step _ (by simp), stepC_esc, e2]
  rfl

/-! ### the writers -/
def isCtl (c : Nat) : Bool := decide ((1 ≤ c ∧ c ≤ 31) ∨ c = 127)
def isDg (c : Nat) : Bool := decide (48 ≤ c ∧ c ≤ 57)
def starts (c : Nat) : Bool := decide ((97 ≤ c ∧ c ≤ 122) ∨ (65 ≤ c ∧ c ≤ 90) ∨ c = 95 ∨ 128 ≤ c)
def conts (c : Nat) : Bool := decide ((97 ≤ c ∧ c ≤ 122) ∨ (65 ≤ c ∧ c ≤ 90) ∨ c = 95 ∨ 128 ≤ c ∨ (48 ≤ c ∧ c ≤ 57) ∨ c = 45)

theorem hexv_none {c : Nat} (h : ¬ ((48 ≤ c ∧ c ≤ 57) ∨ (97 ≤ c ∧ c ≤ 102) ∨ (65 ≤ c ∧ c ≤ 70))) : hexv c = none := by
  unfold hexv
  rw [if_neg (by omega), if_neg (by omega), if_neg (by omega)]

/-- One code point of an identifier: dig: a digit must be escaped; lone: the name is a hyphen alone. -/
def idChar (dig lone : Bool) (c : Nat) : List Nat :=
  if isCtl c = true ∨ (isDg c = true ∧ dig = true) then codedC 1 c else if conts c = true ∧ lone = false then [c] else [92, c]

theorem decP_idChar (dig lone : Bool) (c : Nat) (h : Cp c) (hl : lone = true → c = 45) (r : List Nat) : decP (idChar dig lone c ++ r) = c :: decP r := by
  unfold idChar
  by_cases h1 : isCtl c = true ∨ (isDg c = true ∧ dig = true)
  · rw [if_pos h1]; exact decP_coded 1 c h (by omega) r
  · rw [if_neg h1]
    by_cases h2 : conts c = true ∧ lone = false
    · rw [if_pos h2]
      have h3 : (97 ≤ c ∧ c ≤ 122) ∨ (65 ≤ c ∧ c ≤ 90) ∨ c = 95 ∨ 128 ≤ c ∨ (48 ≤ c ∧ c ≤ 57) ∨ c = 45 := of_decide_eq_true h2.1
      exact decP_plain c r (by omega)
    · rw [if_neg h2]
      have hc : ¬ ((1 ≤ c ∧ c ≤ 31) ∨ c = 127) := fun hh => h1 (.inl (decide_eq_true hh))
      have hx : hexv c = none := by
        cases lone with
        | true => rw [hl rfl]; rfl
        | false =>
          have h3 : ¬ ((97 ≤ c ∧ c ≤ 122) ∨ (65 ≤ c ∧ c ≤ 90) ∨ c = 95 ∨ 128 ≤ c ∨ (48 ≤ c ∧ c ≤ 57) ∨ c = 45) := fun hh => h2 ⟨decide_eq_true hh, rfl⟩
          exact hexv_none (by omega)
      have hn : isNl c = false := by simp [isNl]; omega
      exact decP_back c r hx hn

/-- What stands behind the first code points. -/
def idRest (lone : Bool) (l : List Nat) : List Nat := l.flatMap (idChar false lone)
/-- spec.Identifier: 'first' is the first code point. -/
def identC : List Nat → List Nat
  | [] => []
  | [c] => idChar true (c == 45) c
  | c :: d :: t => idChar true false c ++ idChar (c == 45) false d ++ idRest false t
/-- spec.Name. -/
def nameC (l : List Nat) : List Nat := idRest false l
/-- spec.Unit: an e is written as an escape. -/
def unitC : List Nat → List Nat
  | [] => []
  | c :: t => if c = 101 ∨ c = 69 then codedC 1 c ++ nameC t else identC (c :: t)

theorem unitC_cons (c : Nat) (t : List Nat) : unitC (c :: t) = if c = 101 ∨ c = 69 then codedC 1 c ++ nameC t else identC (c :: t) := rfl
theorem decP_idRest : ∀ (l : List Nat), (∀ c ∈ l, Cp c) → decP (idRest false l) = l
  | [], _ => rfl
  | c :: t, h => by
    have : idRest false (c :: t) = idChar false false c ++ idRest false t := by simp [idRest]
    rw [this, decP_idChar false false c (h c (by simp)) (by simp), decP_idRest t fun d hd => h d (by simp [hd])]
theorem decP_nameC (l : List Nat) (h : ∀ c ∈ l, Cp c) : decP (nameC l) = l := decP_idRest l h
theorem decP_identC (l : List Nat) (h : ∀ c ∈ l, Cp c) : decP (identC l) = l := by
  match l, h with
  | [], _ => rfl
  | [c], h =>
    have := decP_idChar true (c == 45) c (h c (by simp)) (by simp) []
    rw [List.append_nil] at this
    exact this
  | c :: d :: t, h =>
    show decP (idChar true false c ++ idChar (c == 45) false d ++ idRest false t) = _
    rw [List.append_assoc, decP_idChar true false c (h c (by simp)) (by simp), decP_idChar (c == 45) false d (h d (by simp)) (by simp), decP_idRest t fun e he => h e (by simp [he])]
theorem decP_unitC (l : List Nat) (h : ∀ c ∈ l, Cp c) : decP (unitC l) = l := by
  match l, h with
  | [], _ => rfl
  | c :: t, h =>
    rw [unitC_cons]
    by_cases he : c = 101 ∨ c = 69
    · rw [if_pos he, decP_coded 1 c (h c (by simp)) (by omega), decP_nameC t fun d hd => h d (by simp [hd])]
    · rw [if_neg he]; exact decP_identC _ h

/-- One code point in quotes. -/
def quoteChar (q c : Nat) : List Nat := if isCtl c = true then codedC 1 c else if c = q ∨ c = 92 then [92, c] else [c]
def quoteC (q : Nat) (l : List Nat) : List Nat := l.flatMap (quoteChar q)
theorem decP_quoteC (q : Nat) (hq : q = 34 ∨ q = 39) : ∀ (l : List Nat), (∀ c ∈ l, Cp c) → decP (quoteC q l) = l
  | [], _ => rfl
  | c :: t, h => by
    have hc := h c (by simp)
    have e : quoteC q (c :: t) = quoteChar q c ++ quoteC q t := by simp [quoteC]
    have ih := decP_quoteC q hq t fun d hd => h d (by simp [hd])
    rw [e]
    unfold quoteChar
    by_cases h1 : isCtl c = true
    · rw [if_pos h1, decP_coded 1 c hc (by omega), ih]
    · rw [if_neg h1]
      by_cases h2 : c = q ∨ c = 92
      · rw [if_pos h2]
        have hx : hexv c = none := hexv_none (by omega)
        have hn : isNl c = false := by simp [isNl]; omega
        show decP (92 :: c :: quoteC q t) = _
        rw [decP_back c _ hx hn, ih]
      · rw [if_neg h2]
        show decP (c :: quoteC q t) = _
        rw [decP_plain c _ (by omega), ih]

/-- spec.Escaped: 'digits' says at least how many digits. -/
def leastOf (digits : List Int) : Nat := match digits with
  | [] => 1
  | d :: _ => if 1 < d ∧ d < 7 then d.toNat else 1
def escapedC : List Nat → List Int → List Nat
  | [], _ => []
  | c :: t, ds => codedC (leastOf ds) c ++ escapedC t (ds.drop 1)
theorem leastOf_le (ds : List Int) : 1 ≤ leastOf ds ∧ leastOf ds ≤ 6 := by
  unfold leastOf
  cases ds with
  | nil => exact ⟨Nat.le_refl _, by decide⟩
  | cons d t =>
    dsimp only
    by_cases h : 1 < d ∧ d < 7
    · rw [if_pos h]; omega
    · rw [if_neg h]; omega
theorem decP_escapedC : ∀ (l : List Nat) (ds : List Int), (∀ c ∈ l, Cp c) → decP (escapedC l ds) = l
  | [], _, _ => rfl
  | c :: t, ds, h => by
    show decP (codedC (leastOf ds) c ++ escapedC t (ds.drop 1)) = _
    rw [decP_coded _ c (h c (by simp)) (leastOf_le ds).2, decP_escapedC t _ fun d hd => h d (by simp [hd])]

/-! ### what is written is plain -/
theorem codedC_cp (least c : Nat) : ∀ d ∈ codedC least c, Cp d := by
  intro d hd
  unfold codedC at hd
  rcases List.mem_cons.1 hd with rfl | hd
  · unfold Cp; omega
  · rcases List.mem_append.1 hd with hd | hd
    · obtain ⟨x, hx⟩ := digs_hex least c d hd
      have := hexv_ascii hx
      unfold Cp; omega
    · simp at hd; subst hd; unfold Cp; omega
theorem idChar_cp (dig lone : Bool) (c : Nat) (h : Cp c) : ∀ d ∈ idChar dig lone c, Cp d := by
  unfold idChar
  by_cases h1 : isCtl c = true ∨ (isDg c = true ∧ dig = true)
  · rw [if_pos h1]; exact codedC_cp 1 c
  · rw [if_neg h1]
    by_cases h2 : conts c = true ∧ lone = false
    · rw [if_pos h2]; intro d hd; simp at hd; subst hd; exact h
    · rw [if_neg h2]; intro d hd; simp at hd; rcases hd with rfl | rfl
      · unfold Cp; omega
      · exact h
theorem idRest_cp (lone : Bool) (l : List Nat) (h : ∀ c ∈ l, Cp c) : ∀ d ∈ idRest lone l, Cp d := by
  intro d hd
  obtain ⟨c, hc, hd⟩ := List.mem_flatMap.1 hd
  exact idChar_cp false lone c (h c hc) d hd
theorem identC_cp (l : List Nat) (h : ∀ c ∈ l, Cp c) : ∀ d ∈ identC l, Cp d := by
  match l, h with
  | [], h => exact h
  | [c], h => exact idChar_cp _ _ c (h c (by simp))
  | c :: d :: t, h =>
    intro e he
    have he : e ∈ idChar true false c ++ idChar (c == 45) false d ++ idRest false t := he
    rcases List.mem_append.1 he with he | he
    · rcases List.mem_append.1 he with he | he
      · exact idChar_cp _ _ c (h c (by simp)) e he
      · exact idChar_cp _ _ d (h d (by simp)) e he
    · exact idRest_cp _ t (fun x hx => h x (by simp [hx])) e he
theorem nameC_cp (l : List Nat) (h : ∀ c ∈ l, Cp c) : ∀ d ∈ nameC l, Cp d := idRest_cp false l h
theorem unitC_cp (l : List Nat) (h : ∀ c ∈ l, Cp c) : ∀ d ∈ unitC l, Cp d := by
  match l, h with
  | [], h => exact h
  | c :: t, h =>
    rw [unitC_cons]
    by_cases he : c = 101 ∨ c = 69
    · rw [if_pos he]
      intro d hd
      rcases List.mem_append.1 hd with hd | hd
      · exact codedC_cp 1 c d hd
      · exact nameC_cp t (fun x hx => h x (by simp [hx])) d hd
    · rw [if_neg he]; exact identC_cp _ h
theorem quoteC_cp (q : Nat) (l : List Nat) (h : ∀ c ∈ l, Cp c) : ∀ d ∈ quoteC q l, Cp d := by
  intro d hd
  obtain ⟨c, hc, hd⟩ := List.mem_flatMap.1 hd
  unfold quoteChar at hd
  by_cases h1 : isCtl c = true
  · rw [if_pos h1] at hd; exact codedC_cp 1 c d hd
  · rw [if_neg h1] at hd
    by_cases h2 : c = q ∨ c = 92
    · rw [if_pos h2] at hd
      simp at hd; rcases hd with rfl | rfl
      · unfold Cp; omega
      · exact h _ hc
    · rw [if_neg h2] at hd
      simp at hd; subst hd; exact h _ hc
theorem escapedC_cp : ∀ (l : List Nat) (ds : List Int), ∀ d ∈ escapedC l ds, Cp d
  | [], _ => by simp [escapedC]
  | c :: t, ds => by
    intro d hd
    have hd : d ∈ codedC (leastOf ds) c ++ escapedC t (ds.drop 1) := hd
    rcases List.mem_append.1 hd with hd | hd
    · exact codedC_cp _ c d hd
    · exact escapedC_cp t _ d hd
theorem enc_high (c : Nat) (h : 128 ≤ c) : ∀ x ∈ enc c, 128 ≤ x.toNat := by
  intro x hx
  unfold enc Lib.encodeRune at hx
  obtain ⟨z, hz, rfl⟩ := List.mem_map.1 hx
  have hb := Lib.encodeRuneZ_byte _ z hz
  rw [byte_toNat z hb.1 hb.2]
  have hz2 : 128 ≤ z := by
    unfold Lib.encodeRuneZ at hz
    rw [if_neg (by omega)] at hz
    split at hz
    · simp at hz; omega
    · split at hz
      · simp at hz; omega
      · split at hz
        · simp at hz; omega
        · simp at hz; omega
  omega
end Go.Proofs.YtmgkccnfhkcncaaGreatDoor
