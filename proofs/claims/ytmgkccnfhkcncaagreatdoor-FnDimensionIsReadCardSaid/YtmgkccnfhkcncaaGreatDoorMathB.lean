/-
  Plain Lean, no program: what decodeEscapesInToken computes, by bytes; the same by code points.
-/
import Derived.Test.YtmgkccnfhkcncaaGreatDoorMathA
namespace Go.Proofs.YtmgkccnfhkcncaaGreatDoor
open Go

/-- The value of a hexadecimal digit. -/
def hexv (c : Nat) : Option Nat :=
  if 48 ≤ c ∧ c ≤ 57 then some (c - 48) else if 97 ≤ c ∧ c ≤ 102 then some (c - 87) else if 65 ≤ c ∧ c ≤ 70 then some (c - 55) else none
def isWs (c : Nat) : Bool := c == 32 || c == 9 || c == 10 || c == 13 || c == 12
def isNl (c : Nat) : Bool := c == 10 || c == 13 || c == 12
/-- What an escape of digits means. -/
def fix (v : Nat) : Nat := if v = 0 ∨ (55296 ≤ v ∧ v ≤ 57343) ∨ 1114111 < v then 65533 else v

theorem hexv_lt {c v : Nat} (h : hexv c = some v) : v < 16 := by
  unfold hexv at h; split at h
  · simp at h; omega
  · split at h
    · simp at h; omega
    · split at h
      · simp at h; omega
      · simp at h
theorem hexv_ascii {c v : Nat} (h : hexv c = some v) : 48 ≤ c ∧ c < 128 := by
  unfold hexv at h; split at h
  · omega
  · split at h
    · omega
    · split at h
      · omega
      · simp at h
theorem isWs_ascii {c : Nat} (h : isWs c = true) : c < 128 := by
  simp [isWs] at h; omega
theorem isNl_ascii {c : Nat} (h : isNl c = true) : c < 128 := by
  simp [isNl] at h; omega
theorem fix_cp (v : Nat) : Cp (fix v) := by
  unfold fix Cp; split <;> omega

/-! ### by bytes -/
/-- Up to n further hexadecimal digits. -/
def hexRunB : Nat → Nat → List UInt8 → Nat × List UInt8
  | 0, v, l => (v, l)
  | n + 1, v, l => if l = [] then (v, l) else
    match hexv (Lib.decodeL l).1 with
    | some h => hexRunB n (v * 16 + h) (l.drop (Lib.decodeL l).2)
    | none => (v, l)
/-- One whitespace is left out. -/
def dropWsB (l : List UInt8) : List UInt8 := if l ≠ [] ∧ isWs (Lib.decodeL l).1 = true then l.drop (Lib.decodeL l).2 else l
/-- One line feed is left out. -/
def dropLfB (l : List UInt8) : List UInt8 := if (decG l).1 = 10 then l.drop (decG l).2 else l
/-- Behind a backslash: d is the first code point, u what follows it. -/
def escB (d : Nat) (u : List UInt8) : List UInt8 × List UInt8 :=
  match hexv d with
  | some h => (Lib.encodeRune ((fix (hexRunB 5 h u).1 : Nat) : Int), dropWsB (hexRunB 5 h u).2)
  | none => if d = 10 ∨ d = 12 then ([], u) else if d = 13 then ([], dropLfB u) else (Lib.encodeRune (d : Int), u)
/-- One step: what is written, and what is left. -/
def stepB (l : List UInt8) : List UInt8 × List UInt8 :=
  let c := (Lib.decodeL l).1
  let r := l.drop (Lib.decodeL l).2
  if c ≠ 92 then (Lib.encodeRune ((if c = 0 then 65533 else c : Nat) : Int), r)
  else if r = [] then (Lib.encodeRune 65533, r)
  else escB (Lib.decodeL r).1 (r.drop (Lib.decodeL r).2)
/-- The loop. -/
def decB : Nat → List UInt8 → List UInt8
  | 0, _ => []
  | f + 1, l => if l = [] then [] else (stepB l).1 ++ decB f (stepB l).2
/-- How far no backslash and no byte 0 stands. -/
def clean (b : UInt8) : Bool := b != 92 && b != 0
/-- decodeEscapesInToken. -/
def decodeB (l : List UInt8) : List UInt8 :=
  if l.all clean then l else l.takeWhile clean ++ decB l.length (l.dropWhile clean)

theorem hexRunB_len : ∀ (n v : Nat) (l : List UInt8), (hexRunB n v l).2.length ≤ l.length
  | 0, _, _ => Nat.le_refl _
  | n + 1, v, l => by
    unfold hexRunB
    split
    · exact Nat.le_refl _
    · split
      · exact Nat.le_trans (hexRunB_len n _ _) (by rw [List.length_drop]; omega)
      · exact Nat.le_refl _
theorem dropWsB_len (l : List UInt8) : (dropWsB l).length ≤ l.length := by
  unfold dropWsB; split
  · rw [List.length_drop]; omega
  · exact Nat.le_refl _
theorem dropLfB_len (l : List UInt8) : (dropLfB l).length ≤ l.length := by
  unfold dropLfB; split
  · rw [List.length_drop]; omega
  · exact Nat.le_refl _
theorem escB_len (d : Nat) (u : List UInt8) : (escB d u).2.length ≤ u.length := by
  unfold escB
  cases hexv d with
  | some x => exact Nat.le_trans (dropWsB_len _) (hexRunB_len _ _ _)
  | none =>
    dsimp only
    by_cases e1 : d = 10 ∨ d = 12
    · rw [if_pos e1]; exact Nat.le_refl _
    · rw [if_neg e1]
      by_cases e2 : d = 13
      · rw [if_pos e2]; exact dropLfB_len _
      · rw [if_neg e2]; exact Nat.le_refl _
theorem stepB_len (l : List UInt8) (h : l ≠ []) : (stepB l).2.length < l.length := by
  have h0 : 0 < l.length := List.length_pos_iff.2 h
  have hw := Lib.decodeL_width l
  obtain ⟨c, k, hd⟩ : ∃ c k, Lib.decodeL l = (c, k) := ⟨_, _, rfl⟩
  rw [hd] at hw
  have h1 : (l.drop k).length < l.length := by rw [List.length_drop]; dsimp only at hw; omega
  unfold stepB
  rw [hd]
  dsimp only
  by_cases h92 : c ≠ 92
  · rw [if_pos h92]; exact h1
  · rw [if_neg h92]
    by_cases hr : l.drop k = []
    · rw [if_pos hr]; exact h1
    · rw [if_neg hr]
      refine Nat.lt_of_le_of_lt (escB_len _ _) ?_
      rw [List.length_drop]; omega
theorem decB_more : ∀ (f g : Nat) (l : List UInt8), l.length ≤ f → l.length ≤ g → decB f l = decB g l
  | 0, 0, _, _, _ => rfl
  | 0, g + 1, l, h, _ => by
    have : l = [] := List.eq_nil_of_length_eq_zero (by omega)
    simp [decB, this]
  | f + 1, 0, l, _, h => by
    have : l = [] := List.eq_nil_of_length_eq_zero (by omega)
    simp [decB, this]
  | f + 1, g + 1, l, hf, hg => by
    unfold decB
    by_cases h : l = []
    · rw [if_pos h, if_pos h]
    · rw [if_neg h, if_neg h, decB_more f g _ (by have := stepB_len l h; omega) (by have := stepB_len l h; omega)]

/-! ### by code points -/
def hexRunC : Nat → Nat → List Nat → Nat × List Nat
  | 0, v, l => (v, l)
  | _ + 1, v, [] => (v, [])
  | n + 1, v, c :: t => match hexv c with
    | some h => hexRunC n (v * 16 + h) t
    | none => (v, c :: t)
def dropWsC : List Nat → List Nat
  | [] => []
  | c :: t => if isWs c = true then t else c :: t
def dropLfC : List Nat → List Nat
  | [] => []
  | c :: t => if c = 10 then t else c :: t
theorem dropWsC_cons (c : Nat) (t : List Nat) : dropWsC (c :: t) = if isWs c = true then t else c :: t := rfl
theorem dropLfC_cons (c : Nat) (t : List Nat) : dropLfC (c :: t) = if c = 10 then t else c :: t := rfl
theorem hexRunC_cons (n v c : Nat) (t : List Nat) : hexRunC (n + 1) v (c :: t) = match hexv c with
    | some h => hexRunC n (v * 16 + h) t
    | none => (v, c :: t) := rfl
/-- Behind a backslash. -/
def escC (d : Nat) (u : List Nat) : List Nat × List Nat :=
  match hexv d with
  | some h => ([fix (hexRunC 5 h u).1], dropWsC (hexRunC 5 h u).2)
  | none => if d = 10 ∨ d = 12 then ([], u) else if d = 13 then ([], dropLfC u) else ([d], u)
/-- One step, by code points: l is not empty. -/
def stepC : List Nat → List Nat × List Nat
  | [] => ([], [])
  | c :: t => if c ≠ 92 then ([c], t) else match t with
    | [] => ([65533], [])
    | d :: u => escC d u
theorem stepC_plain (c : Nat) (t : List Nat) (h : c ≠ 92) : stepC (c :: t) = ([c], t) := by simp [stepC, h]
theorem stepC_end : stepC [92] = ([65533], []) := rfl
theorem stepC_esc (d : Nat) (u : List Nat) : stepC (92 :: d :: u) = escC d u := rfl
def decC : Nat → List Nat → List Nat
  | 0, _ => []
  | f + 1, l => if l = [] then [] else (stepC l).1 ++ decC f (stepC l).2

theorem hexRunB_encs : ∀ (n v : Nat) (l : List Nat), (∀ c ∈ l, Cp c) → hexRunB n v (encs l) = ((hexRunC n v l).1, encs (hexRunC n v l).2)
  | 0, _, _, _ => rfl
  | n + 1, v, [], _ => by simp [hexRunB, hexRunC, encs]
  | n + 1, v, c :: t, h => by
    have hc := h c (by simp)
    unfold hexRunB
    rw [hexRunC_cons, if_neg (encs_cons_ne c t), dec_encs c hc]
    dsimp only
    cases hexv c with
    | none => rfl
    | some x => dsimp only; rw [drop_encs]; exact hexRunB_encs n _ t fun d hd => h d (by simp [hd])
theorem dropWsB_encs (l : List Nat) (h : ∀ c ∈ l, Cp c) : dropWsB (encs l) = encs (dropWsC l) := by
  cases l with
  | nil => simp [dropWsB, dropWsC, encs]
  | cons c t =>
    unfold dropWsB
    rw [dropWsC_cons, dec_encs c (h c (by simp))]
    dsimp only
    by_cases hw : isWs c = true
    · rw [if_pos ⟨encs_cons_ne c t, hw⟩, if_pos hw, drop_encs]
    · rw [if_neg (fun hh => hw hh.2), if_neg hw]
theorem dropLfB_encs (l : List Nat) (h : ∀ c ∈ l, Cp c) : dropLfB (encs l) = encs (dropLfC l) := by
  cases l with
  | nil => simp [dropLfB, dropLfC, encs, decG]
  | cons c t =>
    unfold dropLfB decG
    rw [dropLfC_cons, if_neg (encs_cons_ne c t), dec_encs c (h c (by simp))]
    dsimp only
    by_cases hw : c = 10
    · rw [if_pos hw, if_pos hw, drop_encs]
    · rw [if_neg hw, if_neg hw]
theorem hexRunC_cp : ∀ (n v : Nat) (l : List Nat), (∀ c ∈ l, Cp c) → ∀ c ∈ (hexRunC n v l).2, Cp c
  | 0, _, _, h => h
  | _ + 1, _, [], h => h
  | n + 1, v, c :: t, h => by
    rw [hexRunC_cons]
    cases hexv c with
    | none => exact h
    | some x => exact hexRunC_cp n _ t fun d hd => h d (by simp [hd])
theorem dropWsC_cp (l : List Nat) (h : ∀ c ∈ l, Cp c) : ∀ c ∈ dropWsC l, Cp c := by
  cases l with
  | nil => exact h
  | cons c t =>
    rw [dropWsC_cons]
    by_cases hw : isWs c = true
    · rw [if_pos hw]; exact fun d hd => h d (by simp [hd])
    · rw [if_neg hw]; exact h
theorem dropLfC_cp (l : List Nat) (h : ∀ c ∈ l, Cp c) : ∀ c ∈ dropLfC l, Cp c := by
  cases l with
  | nil => exact h
  | cons c t =>
    rw [dropLfC_cons]
    by_cases hw : c = 10
    · rw [if_pos hw]; exact fun d hd => h d (by simp [hd])
    · rw [if_neg hw]; exact h
theorem escB_encs (d : Nat) (u : List Nat) (hu : ∀ e ∈ u, Cp e) : escB d (encs u) = (encs (escC d u).1, encs (escC d u).2) := by
  unfold escB escC
  cases hexv d with
  | some x =>
    dsimp only
    rw [hexRunB_encs 5 x u hu]
    dsimp only
    rw [dropWsB_encs _ (hexRunC_cp 5 x u hu), encs_one]; rfl
  | none =>
    dsimp only
    by_cases e1 : d = 10 ∨ d = 12
    · rw [if_pos e1, if_pos e1]; rfl
    · rw [if_neg e1, if_neg e1]
      by_cases e2 : d = 13
      · rw [if_pos e2, if_pos e2, dropLfB_encs u hu]; rfl
      · rw [if_neg e2, if_neg e2, encs_one]; rfl
theorem stepB_encs (c : Nat) (t : List Nat) (h : ∀ d ∈ c :: t, Cp d) : stepB (encs (c :: t)) = (encs (stepC (c :: t)).1, encs (stepC (c :: t)).2) := by
  have hc := h c (by simp)
  have ht : ∀ d ∈ t, Cp d := fun d hd => h d (by simp [hd])
  unfold stepB
  rw [dec_encs c hc, drop_encs]
  dsimp only
  by_cases h92 : c ≠ 92
  · rw [if_pos h92, stepC_plain c t h92, if_neg (by unfold Cp at hc; omega)]
    dsimp only
    rw [encs_one]; rfl
  · rw [if_neg h92]
    have h92 : c = 92 := by omega
    subst h92
    cases t with
    | nil => rw [if_pos encs_nil, stepC_end, encs_one]; rfl
    | cons d u =>
      have hd := ht d (by simp)
      rw [if_neg (encs_cons_ne d u), dec_encs d hd, drop_encs, stepC_esc]
      exact escB_encs d u fun e he => ht e (by simp [he])
theorem escC_cp (d : Nat) (u : List Nat) (hd : Cp d) (hu : ∀ e ∈ u, Cp e) : (∀ e ∈ (escC d u).1, Cp e) ∧ (∀ e ∈ (escC d u).2, Cp e) := by
  unfold escC
  cases hexv d with
  | some x => exact ⟨by intro e he; simp at he; subst he; exact fix_cp _, dropWsC_cp _ (hexRunC_cp _ _ _ hu)⟩
  | none =>
    dsimp only
    by_cases e1 : d = 10 ∨ d = 12
    · rw [if_pos e1]; exact ⟨by simp, hu⟩
    · rw [if_neg e1]
      by_cases e2 : d = 13
      · rw [if_pos e2]; exact ⟨by simp, dropLfC_cp _ hu⟩
      · rw [if_neg e2]; exact ⟨by simpa using hd, hu⟩
theorem stepC_cp (l : List Nat) (h : ∀ d ∈ l, Cp d) : (∀ d ∈ (stepC l).1, Cp d) ∧ (∀ d ∈ (stepC l).2, Cp d) := by
  cases l with
  | nil => exact ⟨h, h⟩
  | cons c t =>
    have ht : ∀ d ∈ t, Cp d := fun d hd => h d (by simp [hd])
    by_cases h92 : c = 92
    · subst h92
      cases t with
      | nil => rw [stepC_end]; exact ⟨by intro d hd; simp at hd; subst hd; unfold Cp; omega, ht⟩
      | cons d u => rw [stepC_esc]; exact escC_cp d u (ht d (by simp)) fun e he => ht e (by simp [he])
    · rw [stepC_plain c t h92]; exact ⟨by simpa using h c (by simp), ht⟩
theorem decB_encs : ∀ (f : Nat) (l : List Nat), (∀ c ∈ l, Cp c) → decB f (encs l) = encs (decC f l)
  | 0, _, _ => rfl
  | f + 1, [], _ => by simp [decB, decC, encs]
  | f + 1, c :: t, h => by
    unfold decB decC
    rw [if_neg (encs_cons_ne c t), if_neg (by simp), stepB_encs c t h, encs_append]
    dsimp only
    rw [decB_encs f _ (stepC_cp _ h).2]
theorem decC_cp : ∀ (f : Nat) (l : List Nat), (∀ c ∈ l, Cp c) → ∀ c ∈ decC f l, Cp c
  | 0, _, _ => by simp [decC]
  | f + 1, l, h => by
    unfold decC
    split
    · simp
    · intro c hc
      rcases List.mem_append.1 hc with hc | hc
      · exact (stepC_cp l h).1 c hc
      · exact decC_cp f _ (stepC_cp l h).2 c hc
theorem hexRunC_len : ∀ (n v : Nat) (l : List Nat), (hexRunC n v l).2.length ≤ l.length
  | 0, _, _ => Nat.le_refl _
  | _ + 1, _, [] => Nat.le_refl _
  | n + 1, v, c :: t => by
    rw [hexRunC_cons]
    cases hexv c with
    | none => exact Nat.le_refl _
    | some x => exact Nat.le_trans (hexRunC_len n _ t) (by simp)
theorem dropWsC_len (l : List Nat) : (dropWsC l).length ≤ l.length := by
  cases l with
  | nil => exact Nat.le_refl _
  | cons c t =>
    rw [dropWsC_cons]
    by_cases hw : isWs c = true
    · rw [if_pos hw]; simp
    · rw [if_neg hw]; exact Nat.le_refl _
theorem dropLfC_len (l : List Nat) : (dropLfC l).length ≤ l.length := by
  cases l with
  | nil => exact Nat.le_refl _
  | cons c t =>
    rw [dropLfC_cons]
    by_cases hw : c = 10
    · rw [if_pos hw]; simp
    · rw [if_neg hw]; exact Nat.le_refl _
theorem escC_len (d : Nat) (u : List Nat) : (escC d u).2.length ≤ u.length := by
  unfold escC
  cases hexv d with
  | some x => exact Nat.le_trans (dropWsC_len _) (hexRunC_len _ _ _)
  | none =>
    dsimp only
    by_cases e1 : d = 10 ∨ d = 12
    · rw [if_pos e1]; exact Nat.le_refl _
    · rw [if_neg e1]
      by_cases e2 : d = 13
      · rw [if_pos e2]; exact dropLfC_len _
      · rw [if_neg e2]; exact Nat.le_refl _
theorem stepC_len (l : List Nat) (h : l ≠ []) : (stepC l).2.length < l.length := by
  cases l with
  | nil => exact absurd rfl h
  | cons c t =>
    by_cases h92 : c = 92
    · subst h92
      cases t with
      | nil => rw [stepC_end]; simp
      | cons d u =>
        rw [stepC_esc]
        have := escC_len d u
        simp only [List.length_cons]; omega
    · rw [stepC_plain c t h92]; simp
theorem decC_more : ∀ (f g : Nat) (l : List Nat), l.length ≤ f → l.length ≤ g → decC f l = decC g l
  | 0, 0, _, _, _ => rfl
  | 0, g + 1, l, h, _ => by
    have : l = [] := List.eq_nil_of_length_eq_zero (by omega)
    simp [decC, this]
  | f + 1, 0, l, _, h => by
    have : l = [] := List.eq_nil_of_length_eq_zero (by omega)
    simp [decC, this]
  | f + 1, g + 1, l, hf, hg => by
    unfold decC
    by_cases h : l = []
    · rw [if_pos h, if_pos h]
    · rw [if_neg h, if_neg h, decC_more f g _ (by have := stepC_len l h; omega) (by have := stepC_len l h; omega)]
/-- What a name, or a string's inside, means. -/
def decP (l : List Nat) : List Nat := decC l.length l
theorem decP_nil : decP [] = [] := rfl
theorem decP_step (l : List Nat) (h : l ≠ []) : decP l = (stepC l).1 ++ decP (stepC l).2 := by
  have hl := stepC_len l h
  unfold decP
  obtain ⟨n, hn⟩ : ∃ n, l.length = n + 1 := ⟨l.length - 1, by omega⟩
  rw [hn]
  conv => lhs; unfold decC
  rw [if_neg h, decC_more n _ _ (by omega) (Nat.le_refl _)]
theorem decP_cp (l : List Nat) (h : ∀ c ∈ l, Cp c) : ∀ c ∈ decP l, Cp c := decC_cp _ l h
/-- A code point that is no backslash stays. -/
theorem decP_plain (c : Nat) (t : List Nat) (h : c ≠ 92) : decP (c :: t) = c :: decP t := by
  rw [decP_step _ (by simp), stepC_plain c t h]; rfl

/-- Where no backslash and no byte 0 stands all stays. -/
theorem clean_enc (c : Nat) (h : Cp c) : (enc c).all clean = decide (c ≠ 92) := by
  by_cases ha : c < 128
  · rw [enc_ascii c ha]
    have h1 := h.1
    have hb : c.toUInt8.toNat = c := by simp [Nat.toUInt8, UInt8.toNat_ofNat']; omega
    have e1 : (c.toUInt8 != 0) = true := by
      rw [bne_iff_ne]; intro e
      have := congrArg UInt8.toNat e
      rw [hb] at this; simp at this; omega
    by_cases h92 : c = 92
    · subst h92; decide
    · have e2 : (c.toUInt8 != 92) = true := by
        rw [bne_iff_ne]; intro e
        have := congrArg UInt8.toNat e
        rw [hb] at this; simp at this; omega
      simp [clean, e1, e2, h92]
  · have h92 : c ≠ 92 := by omega
    rw [decide_eq_true h92, List.all_eq_true]
    intro x hx
    have hx2 : 128 ≤ x.toNat := by
      unfold enc Lib.encodeRune at hx
      obtain ⟨z, hz, rfl⟩ := List.mem_map.1 hx
      have hz2 : 128 ≤ z ∧ z < 256 := by
        refine ⟨?_, (Lib.encodeRuneZ_byte _ z hz).2⟩
        have hc2 := h.2
        unfold Lib.encodeRuneZ at hz
        rw [if_neg (by omega)] at hz
        split at hz
        · simp at hz; omega
        · split at hz
          · simp at hz; omega
          · split at hz
            · simp at hz; omega
            · simp at hz; omega
      rw [byte_toNat z (by omega) hz2.2]; omega
    unfold clean
    rw [Bool.and_eq_true, bne_iff_ne, bne_iff_ne]
    exact ⟨by rintro rfl; simp at hx2, by rintro rfl; simp at hx2⟩

theorem all_clean_decP : ∀ (l : List Nat), (∀ c ∈ l, Cp c) → (encs l).all clean = true → decP l = l
  | [], _, _ => rfl
  | c :: t, h, ha => by
    rw [encs_cons, List.all_append, Bool.and_eq_true, clean_enc c (h c (by simp))] at ha
    rw [decP_plain c t (by simpa using ha.1), all_clean_decP t (fun d hd => h d (by simp [hd])) ha.2]

theorem takeWhile_all {p : UInt8 → Bool} (a b : List UInt8) (h : a.all p = true) : (a ++ b).takeWhile p = a ++ b.takeWhile p ∧ (a ++ b).dropWhile p = b.dropWhile p := by
  induction a with
  | nil => simp
  | cons x t ih =>
    rw [List.all_cons, Bool.and_eq_true] at h
    have := ih h.2
    simp [h.1, this.1, this.2]

theorem decodeB_split : ∀ (l : List Nat), (∀ c ∈ l, Cp c) → ∀ f, (encs l).length ≤ f → (encs l).takeWhile clean ++ decB f ((encs l).dropWhile clean) = encs (decP l)
  | [], _, f, _ => by cases f <;> simp [encs, decP, decC, decB]
  | c :: t, h, f, hf => by
    have hc := h c (by simp)
    have ht : ∀ d ∈ t, Cp d := fun d hd => h d (by simp [hd])
    have hl := enc_len c
    by_cases h92 : c = 92
    · subst h92
      have e : enc 92 = [92] := by rw [enc_ascii 92 (by omega)]; rfl
      have e1 : (encs (92 :: t)).takeWhile clean = [] := by rw [encs_cons, e]; rfl
      have e2 : (encs (92 :: t)).dropWhile clean = encs (92 :: t) := by rw [encs_cons, e]; rfl
      rw [e1, e2, List.nil_append, decB_encs f _ h]
      unfold decP
      rw [decC_more f (92 :: t).length _ (Nat.le_trans (encs_len_le _) hf) (Nat.le_refl _)]
    · have ha : (enc c).all clean = true := by rw [clean_enc c hc]; simpa using h92
      have hs := takeWhile_all (enc c) (encs t) ha
      rw [decP_plain c t h92, encs_cons, encs_cons, hs.1, hs.2, List.append_assoc, decodeB_split t ht f (by rw [encs_cons, List.length_append] at hf; omega)]

/-- **decodeEscapesInToken, by code points.** -/
theorem decodeB_encs (l : List Nat) (h : ∀ c ∈ l, Cp c) : decodeB (encs l) = encs (decP l) := by
  unfold decodeB
  split
  · rename_i ha; rw [all_clean_decP l h ha]
  · exact decodeB_split l h _ (Nat.le_refl _)
end Go.Proofs.YtmgkccnfhkcncaaGreatDoor
