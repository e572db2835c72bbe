/-
  Plain Lean, no program: code points and their bytes; decoding what was encoded. Plain Lean, no program: what decodeEscapesInToken computes, by bytes; the same by code points. Plain Lean, no program: how the reference writes names, strings, units, escapes; that what is written is decoded as it was. Plain Lean, no program: spec.runeAt by its bytes; bits; what the decoder hands back. Plain Lean, no program: the reference's lexer on code points: escapes and names.
-/
import Derived.Lib.TrimUEq
import Derived.Lib.MapLaws
import Derived.Lib.QuoteLoop
import Derived.Lib.RuneBytes
import Derived.Shelf.Unicode.DecodeSlow
import Derived.Laws.BitsLemmas
import Derived.Lib.ValidLaws
namespace Go.Proofs.YtmgkccnfhkcncaaGreatDoor
open Go

/-- A code point that a plain text can hold. -/
def Cp (c : Nat) : Prop := 1 ≤ c ∧ (c < 55296 ∨ (57343 < c ∧ c ≤ 1114111))

/-- The bytes of a code point. -/
def enc (c : Nat) : List UInt8 := Lib.encodeRune (c : Int)
/-- The bytes of code points. -/
def encs (l : List Nat) : List UInt8 := l.flatMap enc

theorem encs_nil : encs [] = [] := rfl
theorem encs_cons (c : Nat) (l : List Nat) : encs (c :: l) = enc c ++ encs l := by simp [encs]
theorem encs_append (a b : List Nat) : encs (a ++ b) = encs a ++ encs b := by simp [encs]
theorem encs_one (c : Nat) : encs [c] = enc c := by simp [encs]

theorem byte_toNat (x : Int) (h0 : 0 ≤ x) (h1 : x < 256) : x.toNat.toUInt8.toNat = x.toNat := by
  have : x.toNat < 256 := by omega
  simp [Nat.toUInt8, UInt8.toNat_ofNat']
  omega

theorem enc_len (c : Nat) : 1 ≤ (enc c).length ∧ (enc c).length ≤ 4 := by
  unfold enc Lib.encodeRune
  rw [List.length_map]
  exact Lib.encodeRuneZ_length _

theorem enc_ascii (c : Nat) (h : c < 128) : enc c = [c.toUInt8] := by
  unfold enc Lib.encodeRune
  rw [Lib.encodeRuneZ_one (by omega) (by omega)]
  simp

theorem enc_ne (c : Nat) : enc c ≠ [] := by
  intro h; have := (enc_len c).1; rw [h] at this; simp at this

theorem dec_enc (c : Nat) (h : Cp c) (r : List UInt8) : Lib.decodeL (enc c ++ r) = (c, (enc c).length) := by
  obtain ⟨h1, h2⟩ := h
  rw [Lib.decodeL_N]
  unfold enc Lib.encodeRune
  by_cases a : c < 128
  · rw [Lib.encodeRuneZ_one (by omega) (by omega)]
    simp only [List.map_cons, List.map_nil, List.cons_append, List.nil_append, List.getD_cons_zero, List.length_cons, List.length_nil]
    rw [byte_toNat _ (by omega) (by omega), Lib.decodeN_ascii _ _ _ _ _ (by omega)]
    simp
  · by_cases b : c < 2048
    · rw [Lib.encodeRuneZ_two (by omega) (by omega)]
      simp only [List.map_cons, List.map_nil, List.cons_append, List.nil_append, List.getD_cons_zero, List.getD_cons_succ, List.length_cons, List.length_nil]
      rw [byte_toNat _ (by omega) (by omega), byte_toNat _ (by omega) (by omega)]
      unfold Lib.decodeN
      rw [if_neg (by omega), if_pos (by omega), if_pos (by omega)]
      congr 1; omega
    · by_cases d : c < 65536
      · rw [Lib.encodeRuneZ_three (by omega)]
        simp only [List.map_cons, List.map_nil, List.cons_append, List.nil_append, List.getD_cons_zero, List.getD_cons_succ, List.length_cons, List.length_nil]
        rw [byte_toNat _ (by omega) (by omega), byte_toNat _ (by omega) (by omega), byte_toNat _ (by omega) (by omega)]
        unfold Lib.decodeN
        rw [if_neg (by omega), if_neg (by omega), if_pos (by omega), if_pos (by omega)]
        congr 1; omega
      · rw [Lib.encodeRuneZ_four (by omega) (by omega)]
        simp only [List.map_cons, List.map_nil, List.cons_append, List.nil_append, List.getD_cons_zero, List.getD_cons_succ, List.length_cons, List.length_nil]
        rw [byte_toNat _ (by omega) (by omega), byte_toNat _ (by omega) (by omega), byte_toNat _ (by omega) (by omega), byte_toNat _ (by omega) (by omega)]
        unfold Lib.decodeN
        rw [if_neg (by omega), if_neg (by omega), if_neg (by omega), if_pos (by omega), if_pos (by omega)]
        congr 1; omega

theorem dec_encs (c : Nat) (h : Cp c) (l : List Nat) : Lib.decodeL (encs (c :: l)) = (c, (enc c).length) := by
  rw [encs_cons]; exact dec_enc c h _
theorem drop_encs (c : Nat) (l : List Nat) : (encs (c :: l)).drop (enc c).length = encs l := by
  rw [encs_cons, List.drop_left]
theorem encs_cons_ne (c : Nat) (l : List Nat) : encs (c :: l) ≠ [] := by
  rw [encs_cons]; intro h; exact enc_ne c (List.append_eq_nil_iff.1 h).1
theorem encs_eq_nil (l : List Nat) : encs l = [] ↔ l = [] := by
  cases l with
  | nil => simp [encs]
  | cons c t => simp [encs_cons_ne]
theorem encs_len_le (l : List Nat) : l.length ≤ (encs l).length := by
  induction l with
  | nil => simp [encs]
  | cons c t ih => rw [encs_cons, List.length_append, List.length_cons]; have := (enc_len c).1; omega
theorem encs_len_ge (l : List Nat) : (encs l).length ≤ 4 * l.length := by
  induction l with
  | nil => simp [encs]
  | cons c t ih => rw [encs_cons, List.length_append, List.length_cons]; have := (enc_len c).2; omega
theorem encs_inj : ∀ (a b : List Nat), (∀ c ∈ a, Cp c) → (∀ c ∈ b, Cp c) → encs a = encs b → a = b
  | [], [], _, _, _ => rfl
  | [], c :: t, _, _, h => absurd h.symm (encs_cons_ne c t)
  | c :: t, [], _, _, h => absurd h (encs_cons_ne c t)
  | c :: t, d :: u, ha, hb, h => by
    have h1 := dec_encs c (ha c (by simp)) t
    have h2 := dec_encs d (hb d (by simp)) u
    rw [h, h2] at h1
    have e1 : d = c := congrArg Prod.fst h1
    subst e1
    have h3 : encs t = encs u := by rw [← drop_encs d t, ← drop_encs d u, h]
    rw [encs_inj t u (fun c hc => ha c (by simp [hc])) (fun c hc => hb c (by simp [hc])) h3]

/-- What unicode/utf8.DecodeRuneInString hands back, of a list of bytes. -/
def decG (l : List UInt8) : Nat × Nat := if l = [] then (65533, 0) else Lib.decodeL l

/-- spec.runeAt, of what stands at the place: -1, 0 behind the text; -2, 1 for what is no UTF-8. -/
def runeZ (l : List UInt8) : Int × Nat :=
  if l = [] then (-1, 0) else if (Lib.decodeL l).1 = 65533 ∧ (Lib.decodeL l).2 = 1 then (-2, 1) else (((Lib.decodeL l).1 : Int), (Lib.decodeL l).2)

theorem runeZ_nil : runeZ [] = (-1, 0) := rfl
theorem runeZ_encs (c : Nat) (h : Cp c) (l : List Nat) : runeZ (encs (c :: l)) = ((c : Int), (enc c).length) := by
  unfold runeZ
  rw [if_neg (encs_cons_ne c l), dec_encs c h, if_neg]
  rintro ⟨h1, h2⟩
  simp only at h1 h2
  subst h1
  have : (enc 65533).length = 3 := by rfl
  omega

/-- spec.IsPlain from a place on, by fuel. -/
def plainF : Nat → List UInt8 → Bool
  | 0, _ => true
  | f + 1, l => if l = [] then true else if (runeZ l).1 = -2 ∨ (runeZ l).1 = 0 then false else plainF f (l.drop (runeZ l).2)

/-- spec.IsPlain. -/
def plainL (l : List UInt8) : Bool := !(decide ((runeZ l).1 = 65279)) && plainF l.length l

theorem runeZ_width (l : List UInt8) (h : l ≠ []) : 1 ≤ (runeZ l).2 ∧ (runeZ l).2 ≤ l.length := by
  have h0 : 0 < l.length := List.length_pos_iff.2 h
  unfold runeZ
  rw [if_neg h]
  split
  · exact ⟨Nat.le_refl _, h0⟩
  · exact ⟨Lib.decodeL_width l, Lib.decodeL_le l h⟩

theorem plainF_cps : ∀ (f : Nat) (l : List UInt8), l.length ≤ f → plainF f l = true → ∃ cps : List Nat, l = encs cps ∧ ∀ c ∈ cps, Cp c
  | 0, l, hf, _ => by
    have : l = [] := List.eq_nil_of_length_eq_zero (by omega)
    subst this
    exact ⟨[], rfl, by simp⟩
  | f + 1, l, hf, h => by
    by_cases hl : l = []
    · subst hl; exact ⟨[], rfl, by simp⟩
    · have hw := runeZ_width l hl
      unfold plainF at h
      rw [if_neg hl] at h
      by_cases hb : (runeZ l).1 = -2 ∨ (runeZ l).1 = 0
      · rw [if_pos hb] at h; exact absurd h (by simp)
      · rw [if_neg hb] at h
        obtain ⟨cps, e, hc⟩ := plainF_cps f (l.drop (runeZ l).2) (by rw [List.length_drop]; omega) h
        have hv : ¬ ((Lib.decodeL l).1 = 65533 ∧ (Lib.decodeL l).2 = 1) := by
          intro hv; apply hb; left; unfold runeZ; rw [if_neg hl, if_pos hv]
        have hr : runeZ l = (((Lib.decodeL l).1 : Int), (Lib.decodeL l).2) := by unfold runeZ; rw [if_neg hl, if_neg hv]
        have he := Lib.encode_decode l hl hv
        have hval := Lib.decodeN_valid l.length (l.getD 0 0).toNat (l.getD 1 0).toNat (l.getD 2 0).toNat (l.getD 3 0).toNat (UInt8.toNat_lt _)
        rw [← Lib.decodeL_N] at hval
        refine ⟨(Lib.decodeL l).1 :: cps, ?_, ?_⟩
        · rw [encs_cons, ← e, hr]
          unfold enc
          rw [he, List.take_append_drop]
        · intro c hcm
          rcases List.mem_cons.1 hcm with rfl | hcm
          · refine ⟨?_, by omega⟩
            rcases Nat.eq_zero_or_pos (Lib.decodeL l).1 with h0 | h0
            · exfalso; apply hb; right; rw [hr]; simp [h0]
            · exact h0
          · exact hc c hcm

theorem plainF_encs : ∀ (f : Nat) (cps : List Nat), (∀ c ∈ cps, Cp c) → plainF f (encs cps) = true
  | 0, _, _ => rfl
  | f + 1, [], _ => by simp [plainF, encs]
  | f + 1, c :: t, h => by
    have hc := h c (by simp)
    unfold plainF
    rw [if_neg (encs_cons_ne c t), runeZ_encs c hc, if_neg (by unfold Cp at hc; simp only; omega), drop_encs]
    exact plainF_encs f t fun d hd => h d (by simp [hd])

theorem plainL_cps {l : List UInt8} (h : plainL l = true) : ∃ cps : List Nat, l = encs cps ∧ (∀ c ∈ cps, Cp c) ∧ cps.head? ≠ some 65279 := by
  unfold plainL at h
  rw [Bool.and_eq_true] at h
  obtain ⟨cps, rfl, hc⟩ := plainF_cps _ _ (Nat.le_refl _) h.2
  refine ⟨cps, rfl, hc, ?_⟩
  cases cps with
  | nil => simp
  | cons c t =>
    have h1 := h.1
    rw [runeZ_encs c (hc c (by simp))] at h1
    simp at h1 ⊢
    omega

theorem plainL_x {l : List UInt8} (h : plainL (120 :: l) = true) : ∃ cps : List Nat, l = encs cps ∧ ∀ c ∈ cps, Cp c := by
  obtain ⟨cps, e, hc, _⟩ := plainL_cps h
  have hx : enc 120 = [120] := by rw [enc_ascii 120 (by omega)]; rfl
  have e0 : (120 : UInt8) :: l = enc 120 ++ l := by rw [hx]; rfl
  cases cps with
  | nil => simp [encs] at e
  | cons c t =>
    have h1 := dec_encs c (hc c (by simp)) t
    rw [← e, e0, dec_enc 120 (by unfold Cp; omega)] at h1
    have e1 : 120 = c := congrArg Prod.fst h1
    subst e1
    refine ⟨t, ?_, fun d hd => hc d (by simp [hd])⟩
    rw [← drop_encs 120 t, ← e, hx]; rfl
end Go.Proofs.YtmgkccnfhkcncaaGreatDoor

namespace Go.Proofs.YtmgkccnfhkcncaaGreatDoor
open Go

/-- The value of a hexadecimal digit. -/
def hexv (c : Nat) : Option Nat :=
  if 48 ≤ c ∧ c ≤ 57 then some (c - 48) else if 97 ≤ c ∧ c ≤ 102 then some (c - 87) else if 65 ≤ c ∧ c ≤ 70 then some (c - 55) else none
def isWs (c : Nat) : Bool := c == 32 || c == 9 || c == 10 || c == 13 || c == 12
def isNl (c : Nat) : Bool := c == 10 || c == 13 || c == 12
/-- What an escape of digits means. -/
def fix (v : Nat) : Nat := if v = 0 ∨ (55296 ≤ v ∧ v ≤ 57343) ∨ 1114111 < v then 65533 else v

theorem hexv_lt {c v : Nat} (h : hexv c = some v) : v < 16 := by
  unfold hexv at h; split at h
  · simp at h; omega
  · split at h
    · simp at h; omega
    · split at h
      · simp at h; omega
      · simp at h
theorem hexv_ascii {c v : Nat} (h : hexv c = some v) : 48 ≤ c ∧ c < 128 := by
  unfold hexv at h; split at h
  · omega
  · split at h
    · omega
    · split at h
      · omega
      · simp at h
theorem isWs_ascii {c : Nat} (h : isWs c = true) : c < 128 := by
  simp [isWs] at h; omega
theorem isNl_ascii {c : Nat} (h : isNl c = true) : c < 128 := by
  simp [isNl] at h; omega
theorem fix_cp (v : Nat) : Cp (fix v) := by
  unfold fix Cp; split <;> omega

/-! ### by bytes -/
/-- Up to n further hexadecimal digits. -/
def hexRunB : Nat → Nat → List UInt8 → Nat × List UInt8
  | 0, v, l => (v, l)
  | n + 1, v, l => if l = [] then (v, l) else
    match hexv (Lib.decodeL l).1 with
    | some h => hexRunB n (v * 16 + h) (l.drop (Lib.decodeL l).2)
    | none => (v, l)
/-- One whitespace is left out. -/
def dropWsB (l : List UInt8) : List UInt8 := if l ≠ [] ∧ isWs (Lib.decodeL l).1 = true then l.drop (Lib.decodeL l).2 else l
/-- One line feed is left out. -/
def dropLfB (l : List UInt8) : List UInt8 := if (decG l).1 = 10 then l.drop (decG l).2 else l
/-- Behind a backslash: d is the first code point, u what follows it. -/
def escB (d : Nat) (u : List UInt8) : List UInt8 × List UInt8 :=
  match hexv d with
  | some h => (Lib.encodeRune ((fix (hexRunB 5 h u).1 : Nat) : Int), dropWsB (hexRunB 5 h u).2)
  | none => if d = 10 ∨ d = 12 then ([], u) else if d = 13 then ([], dropLfB u) else (Lib.encodeRune (d : Int), u)
/-- One step: what is written, and what is left. -/
def stepB (l : List UInt8) : List UInt8 × List UInt8 :=
  let c := (Lib.decodeL l).1
  let r := l.drop (Lib.decodeL l).2
  if c ≠ 92 then (Lib.encodeRune ((if c = 0 then 65533 else c : Nat) : Int), r)
  else if r = [] then (Lib.encodeRune 65533, r)
  else escB (Lib.decodeL r).1 (r.drop (Lib.decodeL r).2)
/-- The loop. -/
def decB : Nat → List UInt8 → List UInt8
  | 0, _ => []
  | f + 1, l => if l = [] then [] else (stepB l).1 ++ decB f (stepB l).2
/-- How far no backslash and no byte 0 stands. -/
def clean (b : UInt8) : Bool := b != 92 && b != 0
/-- decodeEscapesInToken. -/
def decodeB (l : List UInt8) : List UInt8 :=
  if l.all clean then l else l.takeWhile clean ++ decB l.length (l.dropWhile clean)

theorem hexRunB_len : ∀ (n v : Nat) (l : List UInt8), (hexRunB n v l).2.length ≤ l.length
  | 0, _, _ => Nat.le_refl _
  | n + 1, v, l => by
    unfold hexRunB
    split
    · exact Nat.le_refl _
    · split
      · exact Nat.le_trans (hexRunB_len n _ _) (by rw [List.length_drop]; omega)
      · exact Nat.le_refl _
theorem dropWsB_len (l : List UInt8) : (dropWsB l).length ≤ l.length := by
  unfold dropWsB; split
  · rw [List.length_drop]; omega
  · exact Nat.le_refl _
theorem dropLfB_len (l : List UInt8) : (dropLfB l).length ≤ l.length := by
  unfold dropLfB; split
  · rw [List.length_drop]; omega
  · exact Nat.le_refl _
theorem escB_len (d : Nat) (u : List UInt8) : (escB d u).2.length ≤ u.length := by
  unfold escB
  cases hexv d with
  | some x => exact Nat.le_trans (dropWsB_len _) (hexRunB_len _ _ _)
  | none =>
    dsimp only
    by_cases e1 : d = 10 ∨ d = 12
    · rw [if_pos e1]; exact Nat.le_refl _
    · rw [if_neg e1]
      by_cases e2 : d = 13
      · rw [if_pos e2]; exact dropLfB_len _
      · rw [if_neg e2]; exact Nat.le_refl _
theorem stepB_len (l : List UInt8) (h : l ≠ []) : (stepB l).2.length < l.length := by
  have h0 : 0 < l.length := List.length_pos_iff.2 h
  have hw := Lib.decodeL_width l
  obtain ⟨c, k, hd⟩ : ∃ c k, Lib.decodeL l = (c, k) := ⟨_, _, rfl⟩
  rw [hd] at hw
  have h1 : (l.drop k).length < l.length := by rw [List.length_drop]; dsimp only at hw; omega
  unfold stepB
  rw [hd]
  dsimp only
  by_cases h92 : c ≠ 92
  · rw [if_pos h92]; exact h1
  · rw [if_neg h92]
    by_cases hr : l.drop k = []
    · rw [if_pos hr]; exact h1
    · rw [if_neg hr]
      refine Nat.lt_of_le_of_lt (escB_len _ _) ?_
      rw [List.length_drop]; omega
theorem decB_more : ∀ (f g : Nat) (l : List UInt8), l.length ≤ f → l.length ≤ g → decB f l = decB g l
  | 0, 0, _, _, _ => rfl
  | 0, g + 1, l, h, _ => by
    have : l = [] := List.eq_nil_of_length_eq_zero (by omega)
    simp [decB, this]
  | f + 1, 0, l, _, h => by
    have : l = [] := List.eq_nil_of_length_eq_zero (by omega)
    simp [decB, this]
  | f + 1, g + 1, l, hf, hg => by
    unfold decB
    by_cases h : l = []
    · rw [if_pos h, if_pos h]
    · rw [if_neg h, if_neg h, decB_more f g _ (by have := stepB_len l h; omega) (by have := stepB_len l h; omega)]

/-! ### by code points -/
def hexRunC : Nat → Nat → List Nat → Nat × List Nat
  | 0, v, l => (v, l)
  | _ + 1, v, [] => (v, [])
  | n + 1, v, c :: t => match hexv c with
    | some h => hexRunC n (v * 16 + h) t
    | none => (v, c :: t)
def dropWsC : List Nat → List Nat
  | [] => []
  | c :: t => if isWs c = true then t else c :: t
def dropLfC : List Nat → List Nat
  | [] => []
  | c :: t => if c = 10 then t else c :: t
theorem dropWsC_cons (c : Nat) (t : List Nat) : dropWsC (c :: t) = if isWs c = true then t else c :: t := rfl
theorem dropLfC_cons (c : Nat) (t : List Nat) : dropLfC (c :: t) = if c = 10 then t else c :: t := rfl
theorem hexRunC_cons (n v c : Nat) (t : List Nat) : hexRunC (n + 1) v (c :: t) = match hexv c with
    | some h => hexRunC n (v * 16 + h) t
    | none => (v, c :: t) := rfl
/-- Behind a backslash. -/
def escC (d : Nat) (u : List Nat) : List Nat × List Nat :=
  match hexv d with
  | some h => ([fix (hexRunC 5 h u).1], dropWsC (hexRunC 5 h u).2)
  | none => if d = 10 ∨ d = 12 then ([], u) else if d = 13 then ([], dropLfC u) else ([d], u)
/-- One step, by code points: l is not empty. -/
def stepC : List Nat → List Nat × List Nat
  | [] => ([], [])
  | c :: t => if c ≠ 92 then ([c], t) else match t with
    | [] => ([65533], [])
    | d :: u => escC d u
theorem stepC_plain (c : Nat) (t : List Nat) (h : c ≠ 92) : stepC (c :: t) = ([c], t) := by simp [stepC, h]
theorem stepC_end : stepC [92] = ([65533], []) := rfl
theorem stepC_esc (d : Nat) (u : List Nat) : stepC (92 :: d :: u) = escC d u := rfl
def decC : Nat → List Nat → List Nat
  | 0, _ => []
  | f + 1, l => if l = [] then [] else (stepC l).1 ++ decC f (stepC l).2

theorem hexRunB_encs : ∀ (n v : Nat) (l : List Nat), (∀ c ∈ l, Cp c) → hexRunB n v (encs l) = ((hexRunC n v l).1, encs (hexRunC n v l).2)
  | 0, _, _, _ => rfl
  | n + 1, v, [], _ => by simp [hexRunB, hexRunC, encs]
  | n + 1, v, c :: t, h => by
    have hc := h c (by simp)
    unfold hexRunB
    rw [hexRunC_cons, if_neg (encs_cons_ne c t), dec_encs c hc]
    dsimp only
    cases hexv c with
    | none => rfl
    | some x => dsimp only; rw [drop_encs]; exact hexRunB_encs n _ t fun d hd => h d (by simp [hd])
theorem dropWsB_encs (l : List Nat) (h : ∀ c ∈ l, Cp c) : dropWsB (encs l) = encs (dropWsC l) := by
  cases l with
  | nil => simp [dropWsB, dropWsC, encs]
  | cons c t =>
    unfold dropWsB
    rw [dropWsC_cons, dec_encs c (h c (by simp))]
    dsimp only
    by_cases hw : isWs c = true
    · rw [if_pos ⟨encs_cons_ne c t, hw⟩, if_pos hw, drop_encs]
    · rw [if_neg (fun hh => hw hh.2), if_neg hw]
theorem dropLfB_encs (l : List Nat) (h : ∀ c ∈ l, Cp c) : dropLfB (encs l) = encs (dropLfC l) := by
  cases l with
  | nil => simp [dropLfB, dropLfC, encs, decG]
  | cons c t =>
    unfold dropLfB decG
    rw [dropLfC_cons, if_neg (encs_cons_ne c t), dec_encs c (h c (by simp))]
    dsimp only
    by_cases hw : c = 10
    · rw [if_pos hw, if_pos hw, drop_encs]
    · rw [if_neg hw, if_neg hw]
theorem hexRunC_cp : ∀ (n v : Nat) (l : List Nat), (∀ c ∈ l, Cp c) → ∀ c ∈ (hexRunC n v l).2, Cp c
  | 0, _, _, h => h
  | _ + 1, _, [], h => h
  | n + 1, v, c :: t, h => by
    rw [hexRunC_cons]
    cases hexv c with
    | none => exact h
    | some x => exact hexRunC_cp n _ t fun d hd => h d (by simp [hd])
theorem dropWsC_cp (l : List Nat) (h : ∀ c ∈ l, Cp c) : ∀ c ∈ dropWsC l, Cp c := by
  cases l with
  | nil => exact h
  | cons c t =>
    rw [dropWsC_cons]
    by_cases hw : isWs c = true
    · rw [if_pos hw]; exact fun d hd => h d (by simp [hd])
    · rw [if_neg hw]; exact h
theorem dropLfC_cp (l : List Nat) (h : ∀ c ∈ l, Cp c) : ∀ c ∈ dropLfC l, Cp c := by
  cases l with
  | nil => exact h
  | cons c t =>
    rw [dropLfC_cons]
    by_cases hw : c = 10
    · rw [if_pos hw]; exact fun d hd => h d (by simp [hd])
    · rw [if_neg hw]; exact h
theorem escB_encs (d : Nat) (u : List Nat) (hu : ∀ e ∈ u, Cp e) : escB d (encs u) = (encs (escC d u).1, encs (escC d u).2) := by
  unfold escB escC
  cases hexv d with
  | some x =>
    dsimp only
    rw [hexRunB_encs 5 x u hu]
    dsimp only
    rw [dropWsB_encs _ (hexRunC_cp 5 x u hu), encs_one]; rfl
  | none =>
    dsimp only
    by_cases e1 : d = 10 ∨ d = 12
    · rw [if_pos e1, if_pos e1]; rfl
    · rw [if_neg e1, if_neg e1]
      by_cases e2 : d = 13
      · rw [if_pos e2, if_pos e2, dropLfB_encs u hu]; rfl
      · rw [if_neg e2, if_neg e2, encs_one]; rfl
theorem stepB_encs (c : Nat) (t : List Nat) (h : ∀ d ∈ c :: t, Cp d) : stepB (encs (c :: t)) = (encs (stepC (c :: t)).1, encs (stepC (c :: t)).2) := by
  have hc := h c (by simp)
  have ht : ∀ d ∈ t, Cp d := fun d hd => h d (by simp [hd])
  unfold stepB
  rw [dec_encs c hc, drop_encs]
  dsimp only
  by_cases h92 : c ≠ 92
  · rw [if_pos h92, stepC_plain c t h92, if_neg (by unfold Cp at hc; omega)]
    dsimp only
    rw [encs_one]; rfl
  · rw [if_neg h92]
    have h92 : c = 92 := by omega
    subst h92
    cases t with
    | nil => rw [if_pos encs_nil, stepC_end, encs_one]; rfl
    | cons d u =>
      have hd := ht d (by simp)
      rw [if_neg (encs_cons_ne d u), dec_encs d hd, drop_encs, stepC_esc]
      exact escB_encs d u fun e he => ht e (by simp [he])
theorem escC_cp (d : Nat) (u : List Nat) (hd : Cp d) (hu : ∀ e ∈ u, Cp e) : (∀ e ∈ (escC d u).1, Cp e) ∧ (∀ e ∈ (escC d u).2, Cp e) := by
  unfold escC
  cases hexv d with
  | some x => exact ⟨by intro e he; simp at he; subst he; exact fix_cp _, dropWsC_cp _ (hexRunC_cp _ _ _ hu)⟩
  | none =>
    dsimp only
    by_cases e1 : d = 10 ∨ d = 12
    · rw [if_pos e1]; exact ⟨by simp, hu⟩
    · rw [if_neg e1]
      by_cases e2 : d = 13
      · rw [if_pos e2]; exact ⟨by simp, dropLfC_cp _ hu⟩
      · rw [if_neg e2]; exact ⟨by simpa using hd, hu⟩
theorem stepC_cp (l : List Nat) (h : ∀ d ∈ l, Cp d) : (∀ d ∈ (stepC l).1, Cp d) ∧ (∀ d ∈ (stepC l).2, Cp d) := by
  cases l with
  | nil => exact ⟨h, h⟩
  | cons c t =>
    have ht : ∀ d ∈ t, Cp d := fun d hd => h d (by simp [hd])
    by_cases h92 : c = 92
    · subst h92
      cases t with
      | nil => rw [stepC_end]; exact ⟨by intro d hd; simp at hd; subst hd; unfold Cp; omega, ht⟩
      | cons d u => rw [stepC_esc]; exact escC_cp d u (ht d (by simp)) fun e he => ht e (by simp [he])
    · rw [stepC_plain c t h92]; exact ⟨by simpa using h c (by simp), ht⟩
theorem decB_encs : ∀ (f : Nat) (l : List Nat), (∀ c ∈ l, Cp c) → decB f (encs l) = encs (decC f l)
  | 0, _, _ => rfl
  | f + 1, [], _ => by simp [decB, decC, encs]
  | f + 1, c :: t, h => by
    unfold decB decC
    rw [if_neg (encs_cons_ne c t), if_neg (by simp), stepB_encs c t h, encs_append]
    dsimp only
    rw [decB_encs f _ (stepC_cp _ h).2]
theorem decC_cp : ∀ (f : Nat) (l : List Nat), (∀ c ∈ l, Cp c) → ∀ c ∈ decC f l, Cp c
  | 0, _, _ => by simp [decC]
  | f + 1, l, h => by
    unfold decC
    split
    · simp
    · intro c hc
      rcases List.mem_append.1 hc with hc | hc
      · exact (stepC_cp l h).1 c hc
      · exact decC_cp f _ (stepC_cp l h).2 c hc
theorem hexRunC_len : ∀ (n v : Nat) (l : List Nat), (hexRunC n v l).2.length ≤ l.length
  | 0, _, _ => Nat.le_refl _
  | _ + 1, _, [] => Nat.le_refl _
  | n + 1, v, c :: t => by
    rw [hexRunC_cons]
    cases hexv c with
    | none => exact Nat.le_refl _
    | some x => exact Nat.le_trans (hexRunC_len n _ t) (by simp)
theorem dropWsC_len (l : List Nat) : (dropWsC l).length ≤ l.length := by
  cases l with
  | nil => exact Nat.le_refl _
  | cons c t =>
    rw [dropWsC_cons]
    by_cases hw : isWs c = true
    · rw [if_pos hw]; simp
    · rw [if_neg hw]; exact Nat.le_refl _
theorem dropLfC_len (l : List Nat) : (dropLfC l).length ≤ l.length := by
  cases l with
  | nil => exact Nat.le_refl _
  | cons c t =>
    rw [dropLfC_cons]
    by_cases hw : c = 10
    · rw [if_pos hw]; simp
    · rw [if_neg hw]; exact Nat.le_refl _
theorem escC_len (d : Nat) (u : List Nat) : (escC d u).2.length ≤ u.length := by
  unfold escC
  cases hexv d with
  | some x => exact Nat.le_trans (dropWsC_len _) (hexRunC_len _ _ _)
  | none =>
    dsimp only
    by_cases e1 : d = 10 ∨ d = 12
    · rw [if_pos e1]; exact Nat.le_refl _
    · rw [if_neg e1]
      by_cases e2 : d = 13
      · rw [if_pos e2]; exact dropLfC_len _
      · rw [if_neg e2]; exact Nat.le_refl _
theorem stepC_len (l : List Nat) (h : l ≠ []) : (stepC l).2.length < l.length := by
  cases l with
  | nil => exact absurd rfl h
  | cons c t =>
    by_cases h92 : c = 92
    · subst h92
      cases t with
      | nil => rw [stepC_end]; simp
      | cons d u =>
        rw [stepC_esc]
        have := escC_len d u
        simp only [List.length_cons]; omega
    · rw [stepC_plain c t h92]; simp
theorem decC_more : ∀ (f g : Nat) (l : List Nat), l.length ≤ f → l.length ≤ g → decC f l = decC g l
  | 0, 0, _, _, _ => rfl
  | 0, g + 1, l, h, _ => by
    have : l = [] := List.eq_nil_of_length_eq_zero (by omega)
    simp [decC, this]
  | f + 1, 0, l, _, h => by
    have : l = [] := List.eq_nil_of_length_eq_zero (by omega)
    simp [decC, this]
  | f + 1, g + 1, l, hf, hg => by
    unfold decC
    by_cases h : l = []
    · rw [if_pos h, if_pos h]
    · rw [if_neg h, if_neg h, decC_more f g _ (by have := stepC_len l h; omega) (by have := stepC_len l h; omega)]
/-- What a name, or a string's inside, means. -/
def decP (l : List Nat) : List Nat := decC l.length l
theorem decP_nil : decP [] = [] := rfl
theorem decP_step (l : List Nat) (h : l ≠ []) : decP l = (stepC l).1 ++ decP (stepC l).2 := by
  have hl := stepC_len l h
  unfold decP
  obtain ⟨n, hn⟩ : ∃ n, l.length = n + 1 := ⟨l.length - 1, by omega⟩
  rw [hn]
  conv => lhs; unfold decC
  rw [if_neg h, decC_more n _ _ (by omega) (Nat.le_refl _)]
theorem decP_cp (l : List Nat) (h : ∀ c ∈ l, Cp c) : ∀ c ∈ decP l, Cp c := decC_cp _ l h
/-- A code point that is no backslash stays. -/
theorem decP_plain (c : Nat) (t : List Nat) (h : c ≠ 92) : decP (c :: t) = c :: decP t := by
  rw [decP_step _ (by simp), stepC_plain c t h]; rfl

/-- Where no backslash and no byte 0 stands all stays. -/
theorem clean_enc (c : Nat) (h : Cp c) : (enc c).all clean = decide (c ≠ 92) := by
  by_cases ha : c < 128
  · rw [enc_ascii c ha]
    have h1 := h.1
    have hb : c.toUInt8.toNat = c := by simp [Nat.toUInt8, UInt8.toNat_ofNat']; omega
    have e1 : (c.toUInt8 != 0) = true := by
      rw [bne_iff_ne]; intro e
      have := congrArg UInt8.toNat e
      rw [hb] at this; simp at this; omega
    by_cases h92 : c = 92
    · subst h92; decide
    · have e2 : (c.toUInt8 != 92) = true := by
        rw [bne_iff_ne]; intro e
        have := congrArg UInt8.toNat e
        rw [hb] at this; simp at this; omega
      simp [clean, e1, e2, h92]
  · have h92 : c ≠ 92 := by omega
    rw [decide_eq_true h92, List.all_eq_true]
    intro x hx
    have hx2 : 128 ≤ x.toNat := by
      unfold enc Lib.encodeRune at hx
      obtain ⟨z, hz, rfl⟩ := List.mem_map.1 hx
      have hz2 : 128 ≤ z ∧ z < 256 := by
        refine ⟨?_, (Lib.encodeRuneZ_byte _ z hz).2⟩
        have hc2 := h.2
        unfold Lib.encodeRuneZ at hz
        rw [if_neg (by omega)] at hz
        split at hz
        · simp at hz; omega
        · split at hz
          · simp at hz; omega
          · split at hz
            · simp at hz; omega
            · simp at hz; omega
      rw [byte_toNat z (by omega) hz2.2]; omega
    unfold clean
    rw [Bool.and_eq_true, bne_iff_ne, bne_iff_ne]
    exact ⟨by rintro rfl; simp at hx2, by rintro rfl; simp at hx2⟩

theorem all_clean_decP : ∀ (l : List Nat), (∀ c ∈ l, Cp c) → (encs l).all clean = true → decP l = l
  | [], _, _ => rfl
  | c :: t, h, ha => by
    rw [encs_cons, List.all_append, Bool.and_eq_true, clean_enc c (h c (by simp))] at ha
    rw [decP_plain c t (by simpa using ha.1), all_clean_decP t (fun d hd => h d (by simp [hd])) ha.2]

theorem takeWhile_all {p : UInt8 → Bool} (a b : List UInt8) (h : a.all p = true) : (a ++ b).takeWhile p = a ++ b.takeWhile p ∧ (a ++ b).dropWhile p = b.dropWhile p := by
  induction a with
  | nil => simp
  | cons x t ih =>
    rw [List.all_cons, Bool.and_eq_true] at h
    have := ih h.2
    simp [h.1, this.1, this.2]

theorem decodeB_split : ∀ (l : List Nat), (∀ c ∈ l, Cp c) → ∀ f, (encs l).length ≤ f → (encs l).takeWhile clean ++ decB f ((encs l).dropWhile clean) = encs (decP l)
  | [], _, f, _ => by cases f <;> simp [encs, decP, decC, decB]
  | c :: t, h, f, hf => by
    have hc := h c (by simp)
    have ht : ∀ d ∈ t, Cp d := fun d hd => h d (by simp [hd])
    have hl := enc_len c
    by_cases h92 : c = 92
    · subst h92
      have e : enc 92 = [92] := by rw [enc_ascii 92 (by omega)]; rfl
      have e1 : (encs (92 :: t)).takeWhile clean = [] := by rw [encs_cons, e]; rfl
      have e2 : (encs (92 :: t)).dropWhile clean = encs (92 :: t) := by rw [encs_cons, e]; rfl
      rw [e1, e2, List.nil_append, decB_encs f _ h]
      unfold decP
      rw [decC_more f (92 :: t).length _ (Nat.le_trans (encs_len_le _) hf) (Nat.le_refl _)]
    · have ha : (enc c).all clean = true := by rw [clean_enc c hc]; simpa using h92
      have hs := takeWhile_all (enc c) (encs t) ha
      rw [decP_plain c t h92, encs_cons, encs_cons, hs.1, hs.2, List.append_assoc, decodeB_split t ht f (by rw [encs_cons, List.length_append] at hf; omega)]

/-- **decodeEscapesInToken, by code points.** -/
theorem decodeB_encs (l : List Nat) (h : ∀ c ∈ l, Cp c) : decodeB (encs l) = encs (decP l) := by
  unfold decodeB
  split
  · rename_i ha; rw [all_clean_decP l h ha]
  · exact decodeB_split l h _ (Nat.le_refl _)
end Go.Proofs.YtmgkccnfhkcncaaGreatDoor

namespace Go.Proofs.YtmgkccnfhkcncaaGreatDoor
open Go

def hexDig (n : Nat) : Nat := if n < 10 then 48 + n else 87 + n
theorem hexv_hexDig (n : Nat) (h : n < 16) : hexv (hexDig n) = some n := by
  unfold hexv hexDig
  by_cases h10 : n < 10
  · rw [if_pos h10, if_pos (by omega)]; congr 1; omega
  · rw [if_neg h10, if_neg (by omega), if_pos (by omega)]; congr 1; omega

/-- The loop over digits: c is what is left, ds what stands already. -/
def digF : Nat → Nat → Nat → List Nat → List Nat
  | 0, _, _, ds => ds
  | f + 1, least, c, ds => if 0 < c ∨ ds.length < least then digF f least (c / 16) (hexDig (c % 16) :: ds) else ds
/-- At least so many digits of c. -/
def digs (least c : Nat) : List Nat := digF (c + least) least c []
/-- A code point as an escape. -/
def codedC (least c : Nat) : List Nat := 92 :: (digs least c ++ [32])

def val (v : Nat) (ds : List Nat) : Nat := ds.foldl (fun v d => v * 16 + (hexv d).getD 0) v
def AllHex (ds : List Nat) : Prop := ∀ d ∈ ds, ∃ x, hexv d = some x

theorem val_cons (v d : Nat) (ds : List Nat) : val v (d :: ds) = val (v * 16 + (hexv d).getD 0) ds := rfl

theorem digF_more : ∀ (f g least c : Nat) (ds : List Nat), c + (least - ds.length) ≤ f → c + (least - ds.length) ≤ g → digF f least c ds = digF g least c ds
  | 0, 0, _, _, _, _, _ => rfl
  | 0, g + 1, least, c, ds, h, _ => by unfold digF; rw [if_neg (by omega)]
  | f + 1, 0, least, c, ds, _, h => by
    conv => lhs; unfold digF
    rw [if_neg (by omega)]; rfl
  | f + 1, g + 1, least, c, ds, hf, hg => by
    unfold digF
    split
    · rename_i h
      have : c / 16 + (least - (hexDig (c % 16) :: ds).length) ≤ f := by simp only [List.length_cons]; omega
      exact digF_more f g least _ _ this (by simp only [List.length_cons]; omega)
    · rfl

theorem digF_hex : ∀ (f least c : Nat) (ds : List Nat), AllHex ds → AllHex (digF f least c ds)
  | 0, _, _, _, h => h
  | f + 1, least, c, ds, h => by
    unfold digF
    split
    · refine digF_hex f least _ _ fun d hd => ?_
      rcases List.mem_cons.1 hd with rfl | hd
      · exact ⟨_, hexv_hexDig _ (Nat.mod_lt _ (by omega))⟩
      · exact h d hd
    · exact h

/-- The value: c stands ahead of ds. -/
theorem digF_val : ∀ (f least c : Nat) (ds : List Nat), c + (least - ds.length) ≤ f → val 0 (digF f least c ds) = val c ds
  | 0, least, c, ds, h => by
    have : c = 0 := by omega
    subst this; rfl
  | f + 1, least, c, ds, h => by
    unfold digF
    split
    · rename_i hc
      rw [digF_val f least _ _ (by simp only [List.length_cons]; omega), val_cons, hexv_hexDig _ (Nat.mod_lt _ (by omega))]
      congr 1
      simp only [Option.getD_some]; omega
    · have : c = 0 := by omega
      subst this; rfl

theorem digF_len : ∀ (f least c : Nat) (ds : List Nat) (k : Nat), c < 16 ^ k → ds.length + k ≤ 6 → least ≤ 6 → ds.length ≤ 6 → (digF f least c ds).length ≤ 6
  | 0, _, _, _, _, _, _, _, h => h
  | f + 1, least, c, ds, k, hc, hk, hl, hd => by
    unfold digF
    split
    · rename_i h
      cases k with
      | zero =>
        have : c = 0 := by simp at hc; exact hc
        subst this
        refine digF_len f least _ _ 0 (by simp) ?_ hl ?_ <;> simp only [List.length_cons] <;> omega
      | succ k =>
        refine digF_len f least _ _ k ?_ ?_ hl ?_
        · rw [Nat.pow_succ] at hc; exact Nat.div_lt_of_lt_mul (by omega)
        · simp only [List.length_cons]; omega
        · simp only [List.length_cons]; omega
    · exact hd

theorem digF_pos : ∀ (f least c : Nat) (ds : List Nat), ds.length ≤ (digF f least c ds).length
  | 0, _, _, _ => Nat.le_refl _
  | f + 1, least, c, ds => by
    unfold digF
    split
    · exact Nat.le_trans (by simp) (digF_pos f least _ (hexDig (c % 16) :: ds))
    · exact Nat.le_refl _

theorem digs_hex (least c : Nat) : AllHex (digs least c) := digF_hex _ _ _ _ (by intro d hd; simp at hd)
theorem digs_val (least c : Nat) : val 0 (digs least c) = c := by
  unfold digs; rw [digF_val _ _ _ _ (by simp)]; rfl
theorem digs_len (least c : Nat) (hc : c ≤ 1114111) (hl : least ≤ 6) : (digs least c).length ≤ 6 :=
  digF_len _ _ _ _ 6 (by omega) (by simp) hl (by simp)
theorem digs_ne (least c : Nat) (hc : 0 < c) : ∃ d t, digs least c = d :: t := by
  have h : 1 ≤ (digs least c).length := by
    unfold digs
    obtain ⟨n, hn⟩ : ∃ n, c + least = n + 1 := ⟨c + least - 1, by omega⟩
    rw [hn]
    unfold digF
    rw [if_pos (Or.inl hc)]
    exact digF_pos n least _ [_]
  cases hd : digs least c with
  | nil => rw [hd] at h; simp at h
  | cons d t => exact ⟨d, t, rfl⟩

/-- Digits, and then what is none. -/
theorem hexRunC_digits : ∀ (n v : Nat) (ds r : List Nat), AllHex ds → ds.length ≤ n → (∀ c t, r = c :: t → hexv c = none) → hexRunC n v (ds ++ r) = (val v ds, r)
  | 0, v, ds, r, _, hn, _ => by
    have : ds = [] := List.eq_nil_of_length_eq_zero (by omega)
    subst this; rfl
  | n + 1, v, [], r, _, _, hr => by
    cases r with
    | nil => rfl
    | cons c t => simp [hexRunC, hr c t rfl, val]
  | n + 1, v, d :: ds, r, ha, hn, hr => by
    obtain ⟨x, hx⟩ := ha d (by simp)
    simp only [List.cons_append, hexRunC, hx, val_cons, Option.getD_some]
    exact hexRunC_digits n _ ds r (fun e he => ha e (by simp [he])) (by simp only [List.length_cons] at hn; omega) hr

theorem fix_self (c : Nat) (h : Cp c) : fix c = c := by unfold Cp at h; unfold fix; rw [if_neg (by omega)]

/-- **An escape of digits and a blank means its code point.** -/
theorem decP_coded (least c : Nat) (h : Cp c) (hl : least ≤ 6) (r : List Nat) : decP (codedC least c ++ r) = c :: decP r := by
  have hc : c ≤ 1114111 := by unfold Cp at h; omega
  obtain ⟨d, t, hd⟩ := digs_ne least c h.1
  have hh := digs_hex least c
  have hv := digs_val least c
  have hle := digs_len least c hc hl
  rw [hd] at hh hv hle
  obtain ⟨x, hx⟩ := hh d (by simp)
  have hr := hexRunC_digits 5 x t (32 :: r) (fun e he => hh e (by simp [he])) (by simp only [List.length_cons] at hle; omega) (by intro e u he; simp at he; rw [← he.1]; rfl)
  have hxv : val x t = c := by rw [val_cons, hx] at hv; simpa using hv
  unfold codedC
  rw [hd]
  have e : (92 :: (d :: t ++ [32]) ++ r) = 92 :: d :: (t ++ 32 :: r) := by simp
  have e2 : escC d (t ++ 32 :: r) = ([c], r) := by
    unfold escC
    rw [hx]
    dsimp only
    rw [hr]
    dsimp only
    rw [hxv, fix_self c h]
    rfl
  rw [e, decP_step _ (by simp), stepC_esc, e2]
  rfl

/-- **A backslash ahead of what is neither a digit nor an end of a line means just this.** -/
theorem decP_back (c : Nat) (r : List Nat) (hx : hexv c = none) (hn : isNl c = false) : decP (92 :: c :: r) = c :: decP r := by
  simp [isNl] at hn
  have e2 : escC c r = ([c], r) := by
    unfold escC
    rw [hx]
    dsimp only
    rw [if_neg (by omega), if_neg (by omega)]
  rw [decP_step _ (by simp), stepC_esc, e2]
  rfl

/-! ### the writers -/
def isCtl (c : Nat) : Bool := decide ((1 ≤ c ∧ c ≤ 31) ∨ c = 127)
def isDg (c : Nat) : Bool := decide (48 ≤ c ∧ c ≤ 57)
def starts (c : Nat) : Bool := decide ((97 ≤ c ∧ c ≤ 122) ∨ (65 ≤ c ∧ c ≤ 90) ∨ c = 95 ∨ 128 ≤ c)
def conts (c : Nat) : Bool := decide ((97 ≤ c ∧ c ≤ 122) ∨ (65 ≤ c ∧ c ≤ 90) ∨ c = 95 ∨ 128 ≤ c ∨ (48 ≤ c ∧ c ≤ 57) ∨ c = 45)

theorem hexv_none {c : Nat} (h : ¬ ((48 ≤ c ∧ c ≤ 57) ∨ (97 ≤ c ∧ c ≤ 102) ∨ (65 ≤ c ∧ c ≤ 70))) : hexv c = none := by
  unfold hexv
  rw [if_neg (by omega), if_neg (by omega), if_neg (by omega)]

/-- One code point of an identifier: dig: a digit must be escaped; lone: the name is a hyphen alone. -/
def idChar (dig lone : Bool) (c : Nat) : List Nat :=
  if isCtl c = true ∨ (isDg c = true ∧ dig = true) then codedC 1 c else if conts c = true ∧ lone = false then [c] else [92, c]

theorem decP_idChar (dig lone : Bool) (c : Nat) (h : Cp c) (hl : lone = true → c = 45) (r : List Nat) : decP (idChar dig lone c ++ r) = c :: decP r := by
  unfold idChar
  by_cases h1 : isCtl c = true ∨ (isDg c = true ∧ dig = true)
  · rw [if_pos h1]; exact decP_coded 1 c h (by omega) r
  · rw [if_neg h1]
    by_cases h2 : conts c = true ∧ lone = false
    · rw [if_pos h2]
      have h3 : (97 ≤ c ∧ c ≤ 122) ∨ (65 ≤ c ∧ c ≤ 90) ∨ c = 95 ∨ 128 ≤ c ∨ (48 ≤ c ∧ c ≤ 57) ∨ c = 45 := of_decide_eq_true h2.1
      exact decP_plain c r (by omega)
    · rw [if_neg h2]
      have hc : ¬ ((1 ≤ c ∧ c ≤ 31) ∨ c = 127) := fun hh => h1 (.inl (decide_eq_true hh))
      have hx : hexv c = none := by
        cases lone with
        | true => rw [hl rfl]; rfl
        | false =>
          have h3 : ¬ ((97 ≤ c ∧ c ≤ 122) ∨ (65 ≤ c ∧ c ≤ 90) ∨ c = 95 ∨ 128 ≤ c ∨ (48 ≤ c ∧ c ≤ 57) ∨ c = 45) := fun hh => h2 ⟨decide_eq_true hh, rfl⟩
          exact hexv_none (by omega)
      have hn : isNl c = false := by simp [isNl]; omega
      exact decP_back c r hx hn

/-- What stands behind the first code points. -/
def idRest (lone : Bool) (l : List Nat) : List Nat := l.flatMap (idChar false lone)
/-- spec.Identifier: 'first' is the first code point. -/
def identC : List Nat → List Nat
  | [] => []
  | [c] => idChar true (c == 45) c
  | c :: d :: t => idChar true false c ++ idChar (c == 45) false d ++ idRest false t
/-- spec.Name. -/
def nameC (l : List Nat) : List Nat := idRest false l
/-- spec.Unit: an e is written as an escape. -/
def unitC : List Nat → List Nat
  | [] => []
  | c :: t => if c = 101 ∨ c = 69 then codedC 1 c ++ nameC t else identC (c :: t)

theorem unitC_cons (c : Nat) (t : List Nat) : unitC (c :: t) = if c = 101 ∨ c = 69 then codedC 1 c ++ nameC t else identC (c :: t) := rfl
theorem decP_idRest : ∀ (l : List Nat), (∀ c ∈ l, Cp c) → decP (idRest false l) = l
  | [], _ => rfl
  | c :: t, h => by
    have : idRest false (c :: t) = idChar false false c ++ idRest false t := by simp [idRest]
    rw [this, decP_idChar false false c (h c (by simp)) (by simp), decP_idRest t fun d hd => h d (by simp [hd])]
theorem decP_nameC (l : List Nat) (h : ∀ c ∈ l, Cp c) : decP (nameC l) = l := decP_idRest l h
theorem decP_identC (l : List Nat) (h : ∀ c ∈ l, Cp c) : decP (identC l) = l := by
  match l, h with
  | [], _ => rfl
  | [c], h =>
    have := decP_idChar true (c == 45) c (h c (by simp)) (by simp) []
    rw [List.append_nil] at this
    exact this
  | c :: d :: t, h =>
    show decP (idChar true false c ++ idChar (c == 45) false d ++ idRest false t) = _
    rw [List.append_assoc, decP_idChar true false c (h c (by simp)) (by simp), decP_idChar (c == 45) false d (h d (by simp)) (by simp), decP_idRest t fun e he => h e (by simp [he])]
theorem decP_unitC (l : List Nat) (h : ∀ c ∈ l, Cp c) : decP (unitC l) = l := by
  match l, h with
  | [], _ => rfl
  | c :: t, h =>
    rw [unitC_cons]
    by_cases he : c = 101 ∨ c = 69
    · rw [if_pos he, decP_coded 1 c (h c (by simp)) (by omega), decP_nameC t fun d hd => h d (by simp [hd])]
    · rw [if_neg he]; exact decP_identC _ h

/-- One code point in quotes. -/
def quoteChar (q c : Nat) : List Nat := if isCtl c = true then codedC 1 c else if c = q ∨ c = 92 then [92, c] else [c]
def quoteC (q : Nat) (l : List Nat) : List Nat := l.flatMap (quoteChar q)
theorem decP_quoteC (q : Nat) (hq : q = 34 ∨ q = 39) : ∀ (l : List Nat), (∀ c ∈ l, Cp c) → decP (quoteC q l) = l
  | [], _ => rfl
  | c :: t, h => by
    have hc := h c (by simp)
    have e : quoteC q (c :: t) = quoteChar q c ++ quoteC q t := by simp [quoteC]
    have ih := decP_quoteC q hq t fun d hd => h d (by simp [hd])
    rw [e]
    unfold quoteChar
    by_cases h1 : isCtl c = true
    · rw [if_pos h1, decP_coded 1 c hc (by omega), ih]
    · rw [if_neg h1]
      by_cases h2 : c = q ∨ c = 92
      · rw [if_pos h2]
        have hx : hexv c = none := hexv_none (by omega)
        have hn : isNl c = false := by simp [isNl]; omega
        show decP (92 :: c :: quoteC q t) = _
        rw [decP_back c _ hx hn, ih]
      · rw [if_neg h2]
        show decP (c :: quoteC q t) = _
        rw [decP_plain c _ (by omega), ih]

/-- spec.Escaped: 'digits' says at least how many digits. -/
def leastOf (digits : List Int) : Nat := match digits with
  | [] => 1
  | d :: _ => if 1 < d ∧ d < 7 then d.toNat else 1
def escapedC : List Nat → List Int → List Nat
  | [], _ => []
  | c :: t, ds => codedC (leastOf ds) c ++ escapedC t (ds.drop 1)
theorem leastOf_le (ds : List Int) : 1 ≤ leastOf ds ∧ leastOf ds ≤ 6 := by
  unfold leastOf
  cases ds with
  | nil => exact ⟨Nat.le_refl _, by decide⟩
  | cons d t =>
    dsimp only
    by_cases h : 1 < d ∧ d < 7
    · rw [if_pos h]; omega
    · rw [if_neg h]; omega
theorem decP_escapedC : ∀ (l : List Nat) (ds : List Int), (∀ c ∈ l, Cp c) → decP (escapedC l ds) = l
  | [], _, _ => rfl
  | c :: t, ds, h => by
    show decP (codedC (leastOf ds) c ++ escapedC t (ds.drop 1)) = _
    rw [decP_coded _ c (h c (by simp)) (leastOf_le ds).2, decP_escapedC t _ fun d hd => h d (by simp [hd])]

/-! ### what is written is plain -/
theorem codedC_cp (least c : Nat) : ∀ d ∈ codedC least c, Cp d := by
  intro d hd
  unfold codedC at hd
  rcases List.mem_cons.1 hd with rfl | hd
  · unfold Cp; omega
  · rcases List.mem_append.1 hd with hd | hd
    · obtain ⟨x, hx⟩ := digs_hex least c d hd
      have := hexv_ascii hx
      unfold Cp; omega
    · simp at hd; subst hd; unfold Cp; omega
theorem idChar_cp (dig lone : Bool) (c : Nat) (h : Cp c) : ∀ d ∈ idChar dig lone c, Cp d := by
  unfold idChar
  by_cases h1 : isCtl c = true ∨ (isDg c = true ∧ dig = true)
  · rw [if_pos h1]; exact codedC_cp 1 c
  · rw [if_neg h1]
    by_cases h2 : conts c = true ∧ lone = false
    · rw [if_pos h2]; intro d hd; simp at hd; subst hd; exact h
    · rw [if_neg h2]; intro d hd; simp at hd; rcases hd with rfl | rfl
      · unfold Cp; omega
      · exact h
theorem idRest_cp (lone : Bool) (l : List Nat) (h : ∀ c ∈ l, Cp c) : ∀ d ∈ idRest lone l, Cp d := by
  intro d hd
  obtain ⟨c, hc, hd⟩ := List.mem_flatMap.1 hd
  exact idChar_cp false lone c (h c hc) d hd
theorem identC_cp (l : List Nat) (h : ∀ c ∈ l, Cp c) : ∀ d ∈ identC l, Cp d := by
  match l, h with
  | [], h => exact h
  | [c], h => exact idChar_cp _ _ c (h c (by simp))
  | c :: d :: t, h =>
    intro e he
    have he : e ∈ idChar true false c ++ idChar (c == 45) false d ++ idRest false t := he
    rcases List.mem_append.1 he with he | he
    · rcases List.mem_append.1 he with he | he
      · exact idChar_cp _ _ c (h c (by simp)) e he
      · exact idChar_cp _ _ d (h d (by simp)) e he
    · exact idRest_cp _ t (fun x hx => h x (by simp [hx])) e he
theorem nameC_cp (l : List Nat) (h : ∀ c ∈ l, Cp c) : ∀ d ∈ nameC l, Cp d := idRest_cp false l h
theorem unitC_cp (l : List Nat) (h : ∀ c ∈ l, Cp c) : ∀ d ∈ unitC l, Cp d := by
  match l, h with
  | [], h => exact h
  | c :: t, h =>
    rw [unitC_cons]
    by_cases he : c = 101 ∨ c = 69
    · rw [if_pos he]
      intro d hd
      rcases List.mem_append.1 hd with hd | hd
      · exact codedC_cp 1 c d hd
      · exact nameC_cp t (fun x hx => h x (by simp [hx])) d hd
    · rw [if_neg he]; exact identC_cp _ h
theorem quoteC_cp (q : Nat) (l : List Nat) (h : ∀ c ∈ l, Cp c) : ∀ d ∈ quoteC q l, Cp d := by
  intro d hd
  obtain ⟨c, hc, hd⟩ := List.mem_flatMap.1 hd
  unfold quoteChar at hd
  by_cases h1 : isCtl c = true
  · rw [if_pos h1] at hd; exact codedC_cp 1 c d hd
  · rw [if_neg h1] at hd
    by_cases h2 : c = q ∨ c = 92
    · rw [if_pos h2] at hd
      simp at hd; rcases hd with rfl | rfl
      · unfold Cp; omega
      · exact h _ hc
    · rw [if_neg h2] at hd
      simp at hd; subst hd; exact h _ hc
theorem escapedC_cp : ∀ (l : List Nat) (ds : List Int), ∀ d ∈ escapedC l ds, Cp d
  | [], _ => by simp [escapedC]
  | c :: t, ds => by
    intro d hd
    have hd : d ∈ codedC (leastOf ds) c ++ escapedC t (ds.drop 1) := hd
    rcases List.mem_append.1 hd with hd | hd
    · exact codedC_cp _ c d hd
    · exact escapedC_cp t _ d hd
theorem enc_high (c : Nat) (h : 128 ≤ c) : ∀ x ∈ enc c, 128 ≤ x.toNat := by
  intro x hx
  unfold enc Lib.encodeRune at hx
  obtain ⟨z, hz, rfl⟩ := List.mem_map.1 hx
  have hb := Lib.encodeRuneZ_byte _ z hz
  rw [byte_toNat z hb.1 hb.2]
  have hz2 : 128 ≤ z := by
    unfold Lib.encodeRuneZ at hz
    rw [if_neg (by omega)] at hz
    split at hz
    · simp at hz; omega
    · split at hz
      · simp at hz; omega
      · split at hz
        · simp at hz; omega
        · simp at hz; omega
  omega
end Go.Proofs.YtmgkccnfhkcncaaGreatDoor

namespace Go.Proofs.YtmgkccnfhkcncaaGreatDoor
open Go

/-- runeZ, by the bytes that stand at the place (n: how many are left, at least one). -/
def runeN (n b0 b1 b2 b3 : Nat) : Int × Nat :=
  if (Lib.decodeN n b0 b1 b2 b3).1 = 65533 ∧ (Lib.decodeN n b0 b1 b2 b3).2 = 1 then (-2, 1) else (((Lib.decodeN n b0 b1 b2 b3).1 : Int), (Lib.decodeN n b0 b1 b2 b3).2)

theorem runeN_of {n b0 b1 b2 b3 c k : Nat} (h : Lib.decodeN n b0 b1 b2 b3 = (c, k)) (hk : ¬ (c = 65533 ∧ k = 1)) : runeN n b0 b1 b2 b3 = ((c : Int), k) := by
  unfold runeN; rw [h]; dsimp only; rw [if_neg hk]
theorem runeN_bad {n b0 b1 b2 b3 : Nat} (h : Lib.decodeN n b0 b1 b2 b3 = (65533, 1)) : runeN n b0 b1 b2 b3 = (-2, 1) := by
  unfold runeN; rw [h]; rfl

theorem rn_ascii {n b0 b1 b2 b3 : Nat} (h : b0 < 128) : runeN n b0 b1 b2 b3 = ((b0 : Int), 1) :=
  runeN_of (Lib.decodeN_ascii _ _ _ _ _ h) (by omega)
theorem rn_lead {n b0 b1 b2 b3 : Nat} (h : 128 ≤ b0) (h2 : b0 < 194 ∨ 245 ≤ b0) (h3 : b0 < 256) : runeN n b0 b1 b2 b3 = (-2, 1) :=
  runeN_bad (Lib.decodeN_bad _ _ _ _ _ (by omega))
theorem rn_two {n b0 b1 b2 b3 : Nat} (h : 194 ≤ b0) (h2 : b0 < 224) (hn : 1 < n) (h1 : b1 / 64 = 2) : runeN n b0 b1 b2 b3 = (((b0 % 32 * 64 + b1 % 64 : Nat) : Int), 2) := by
  refine runeN_of ?_ (by omega)
  unfold Lib.decodeN
  rw [if_neg (by omega), if_pos ⟨by omega, hn, h1⟩, if_pos (by omega)]
theorem rn_two_bad {n b0 b1 b2 b3 : Nat} (h : 194 ≤ b0) (h2 : b0 < 224) (hn : ¬ (1 < n ∧ b1 / 64 = 2)) : runeN n b0 b1 b2 b3 = (-2, 1) := by
  refine runeN_bad ?_
  unfold Lib.decodeN
  rw [if_neg (by omega), if_neg (by omega), if_neg (by omega), if_neg (by omega)]
theorem rn_three {n b0 b1 b2 b3 : Nat} (h : 224 ≤ b0) (h2 : b0 < 240) (hn : 2 < n) (h1 : b1 / 64 = 2) (h3 : b2 / 64 = 2)
    (hv : ¬ (b0 % 16 * 4096 + b1 % 64 * 64 + b2 % 64 < 2048 ∨ (55296 ≤ b0 % 16 * 4096 + b1 % 64 * 64 + b2 % 64 ∧ b0 % 16 * 4096 + b1 % 64 * 64 + b2 % 64 < 57344))) :
    runeN n b0 b1 b2 b3 = (((b0 % 16 * 4096 + b1 % 64 * 64 + b2 % 64 : Nat) : Int), 3) := by
  refine runeN_of ?_ (by omega)
  unfold Lib.decodeN
  rw [if_neg (by omega), if_neg (by omega), if_pos ⟨by omega, ⟨by omega, h1⟩, hn, h3⟩, if_pos (by omega)]
theorem rn_three_low {n b0 b1 b2 b3 : Nat} (h : 224 ≤ b0) (h2 : b0 < 240) (hn : 2 < n) (h1 : b1 / 64 = 2) (h3 : b2 / 64 = 2)
    (hv : b0 % 16 * 4096 + b1 % 64 * 64 + b2 % 64 < 2048 ∨ (55296 ≤ b0 % 16 * 4096 + b1 % 64 * 64 + b2 % 64 ∧ b0 % 16 * 4096 + b1 % 64 * 64 + b2 % 64 < 57344)) :
    runeN n b0 b1 b2 b3 = (-2, 1) := by
  refine runeN_bad ?_
  unfold Lib.decodeN
  rw [if_neg (by omega), if_neg (by omega), if_pos ⟨by omega, ⟨by omega, h1⟩, hn, h3⟩, if_neg (by omega)]
theorem rn_three_bad {n b0 b1 b2 b3 : Nat} (h : 224 ≤ b0) (h2 : b0 < 240) (hn : ¬ ((1 < n ∧ b1 / 64 = 2) ∧ 2 < n ∧ b2 / 64 = 2)) : runeN n b0 b1 b2 b3 = (-2, 1) := by
  refine runeN_bad ?_
  unfold Lib.decodeN
  rw [if_neg (by omega), if_neg (by omega), if_neg (fun hh => hn hh.2), if_neg (by omega)]
theorem rn_four {n b0 b1 b2 b3 : Nat} (h : 240 ≤ b0) (h2 : b0 < 245) (hn : 3 < n) (h1 : b1 / 64 = 2) (h3 : b2 / 64 = 2) (h4 : b3 / 64 = 2)
    (hv : ¬ (b0 % 8 * 262144 + b1 % 64 * 4096 + b2 % 64 * 64 + b3 % 64 < 65536 ∨ 1114111 < b0 % 8 * 262144 + b1 % 64 * 4096 + b2 % 64 * 64 + b3 % 64)) :
    runeN n b0 b1 b2 b3 = (((b0 % 8 * 262144 + b1 % 64 * 4096 + b2 % 64 * 64 + b3 % 64 : Nat) : Int), 4) := by
  refine runeN_of ?_ (by omega)
  unfold Lib.decodeN
  rw [if_neg (by omega), if_neg (by omega), if_neg (by omega), if_pos ⟨by omega, ⟨by omega, h1⟩, ⟨by omega, h3⟩, hn, h4⟩, if_pos (by omega)]
theorem rn_four_low {n b0 b1 b2 b3 : Nat} (h : 240 ≤ b0) (h2 : b0 < 245) (hn : 3 < n) (h1 : b1 / 64 = 2) (h3 : b2 / 64 = 2) (h4 : b3 / 64 = 2)
    (hv : b0 % 8 * 262144 + b1 % 64 * 4096 + b2 % 64 * 64 + b3 % 64 < 65536 ∨ 1114111 < b0 % 8 * 262144 + b1 % 64 * 4096 + b2 % 64 * 64 + b3 % 64) :
    runeN n b0 b1 b2 b3 = (-2, 1) := by
  refine runeN_bad ?_
  unfold Lib.decodeN
  rw [if_neg (by omega), if_neg (by omega), if_neg (by omega), if_pos ⟨by omega, ⟨by omega, h1⟩, ⟨by omega, h3⟩, hn, h4⟩, if_neg (by omega)]
theorem rn_four_bad {n b0 b1 b2 b3 : Nat} (h : 240 ≤ b0) (h2 : b0 < 245) (hn : ¬ ((1 < n ∧ b1 / 64 = 2) ∧ (2 < n ∧ b2 / 64 = 2) ∧ 3 < n ∧ b3 / 64 = 2)) : runeN n b0 b1 b2 b3 = (-2, 1) := by
  refine runeN_bad ?_
  unfold Lib.decodeN
  rw [if_neg (by omega), if_neg (by omega), if_neg (by omega), if_neg (fun hh => hn hh.2)]

theorem drop_ne (s : ByteArray) (at_ : Nat) (h : at_ < s.size) : s.data.toList.drop at_ ≠ [] := by
  intro e
  have := congrArg List.length e
  rw [List.length_drop] at this
  simp at this
  have : s.size = s.data.size := rfl
  omega

theorem runeZ_N (s : ByteArray) (at_ : Nat) (h : at_ < s.size) :
    runeZ (s.data.toList.drop at_) = runeN (s.size - at_) (s.get! at_).toNat (s.get! (at_ + 1)).toNat (s.get! (at_ + 2)).toNat (s.get! (at_ + 3)).toNat := by
  unfold runeZ runeN
  rw [if_neg (drop_ne s at_ h), Lib.decodeL_drop, Lib.decode_at]
theorem runeZ_end (s : ByteArray) (at_ : Nat) (h : s.size ≤ at_) : runeZ (s.data.toList.drop at_) = (-1, 0) := by
  have : s.data.toList.drop at_ = [] := List.drop_eq_nil_of_le h
  rw [this]; rfl

theorem decodeGo_eq (s : ByteArray) : Lib.decodeGo s = decG s.data.toList := by
  unfold Lib.decodeGo decG
  by_cases h : s.size = 0
  · have : s.data.toList = [] := List.eq_nil_of_length_eq_zero h
    rw [if_pos h, if_pos this]
  · have : s.data.toList ≠ [] := fun e => h (by rw [show s.size = s.data.toList.length from rfl, e]; rfl)
    rw [if_neg h, if_neg this, ← Lib.decodeL_drop, List.drop_zero]

/-! ### bits -/
theorem wraps_i64 (n : Int) (h₀ : 0 ≤ n) (h₁ : n < 2 ^ 63) : IntKind.i64.wrap n = n := by rw [IntKind.wrap_i64]; omega
theorem i64_and63 {x : Int} (h₀ : 0 ≤ x) (h₁ : x < 9223372036854775808) : bits .and .i64 x 63 = x % 64 := bits_mask .i64 63 (by decide) wraps_i64 6 (by decide) x h₀ h₁
theorem i64_and31 {x : Int} (h₀ : 0 ≤ x) (h₁ : x < 9223372036854775808) : bits .and .i64 x 31 = x % 32 := bits_mask .i64 63 (by decide) wraps_i64 5 (by decide) x h₀ h₁
theorem i64_and15 {x : Int} (h₀ : 0 ≤ x) (h₁ : x < 9223372036854775808) : bits .and .i64 x 15 = x % 16 := bits_mask .i64 63 (by decide) wraps_i64 4 (by decide) x h₀ h₁
theorem i64_and7 {x : Int} (h₀ : 0 ≤ x) (h₁ : x < 9223372036854775808) : bits .and .i64 x 7 = x % 8 := bits_mask .i64 63 (by decide) wraps_i64 3 (by decide) x h₀ h₁
theorem i64_or6 {x y : Int} (hx₀ : 0 ≤ x) (hx : x % 64 = 0) (hx₁ : x < 9223372036854775808) (h₀ : 0 ≤ y) (h₁ : y < 64) : bits .or .i64 x y = x + y :=
  bits_join .i64 63 (by decide) wraps_i64 6 x y hx₀ (by simpa using hx) (by simpa using hx₁) h₀ (by simpa using h₁) (by omega)
theorem u8_and192 : ∀ x : Fin 256, bits .and .u8 (x.val : Int) 192 = ((x.val / 64 * 64 : Nat) : Int) := by decide +kernel
theorem and192 (x : Nat) (h : x < 256) : bits .and .u8 (x : Int) 192 = ((x / 64 * 64 : Nat) : Int) := u8_and192 ⟨x, h⟩
end Go.Proofs.YtmgkccnfhkcncaaGreatDoor

namespace Go.Proofs.YtmgkccnfhkcncaaGreatDoor
open Go

/-- The code point that comes next but j; -1 behind the text. -/
def cpAt (l : List Nat) (j : Nat) : Int := match l[j]? with | some c => (c : Int) | none => -1
theorem cpAt_zero_cons (c : Nat) (t : List Nat) : cpAt (c :: t) 0 = (c : Int) := rfl
theorem cpAt_succ_cons (c : Nat) (t : List Nat) (j : Nat) : cpAt (c :: t) (j + 1) = cpAt t j := rfl
theorem cpAt_nil (j : Nat) : cpAt [] j = -1 := by unfold cpAt; simp

/-- lexer.newline. -/
def nlS : List Nat → List Nat
  | [] => []
  | c :: t => if c = 13 then dropLfC t else t
/-- What follows the digits of an escape. -/
def escTail (l : List Nat) : List Nat × Bool := match l with
  | [] => ([], false)
  | d :: u => if isNl d = true then (nlS (d :: u), true) else if isWs d = true then (u, false) else (d :: u, false)
/-- lexer.escape, behind the backslash: its value, what is left, whether it is left open. -/
def escS (l : List Nat) : Nat × List Nat × Bool := match l with
  | [] => (65533, [], true)
  | c :: t => match hexv c with
    | none => (c, t, false)
    | some x => (fix (hexRunC 5 x t).1, (escTail (hexRunC 5 x t).2).1, (escTail (hexRunC 5 x t).2).2)
/-- Is it an escape: what follows is no end of a line. -/
def escOk (t : List Nat) : Bool := match t with | [] => true | d :: _ => !isNl d
/-- lexer.name. -/
def nameF : Nat → List Nat → List Nat × List Nat × Bool
  | 0, l => ([], l, false)
  | _ + 1, [] => ([], [], false)
  | f + 1, c :: t =>
    if conts c = true then (c :: (nameF f t).1, (nameF f t).2.1, (nameF f t).2.2)
    else if c = 92 ∧ escOk t = true then ((escS t).1 :: (nameF f (escS t).2.1).1, (nameF f (escS t).2.1).2.1, (escS t).2.2 || (nameF f (escS t).2.1).2.2)
    else ([], c :: t, false)

theorem nlS_cons (c : Nat) (t : List Nat) : nlS (c :: t) = if c = 13 then dropLfC t else t := rfl
theorem escTail_cons (d : Nat) (u : List Nat) : escTail (d :: u) = if isNl d = true then (nlS (d :: u), true) else if isWs d = true then (u, false) else (d :: u, false) := rfl
theorem nlS_len (l : List Nat) : (nlS l).length ≤ l.length := by
  cases l with
  | nil => exact Nat.le_refl _
  | cons c t =>
    rw [nlS_cons]
    by_cases h : c = 13
    · rw [if_pos h]; have := dropLfC_len t; simp only [List.length_cons]; omega
    · rw [if_neg h]; simp
theorem escTail_len (l : List Nat) : (escTail l).1.length ≤ l.length := by
  cases l with
  | nil => exact Nat.le_refl _
  | cons d u =>
    rw [escTail_cons]
    by_cases h : isNl d = true
    · rw [if_pos h]; exact nlS_len (d :: u)
    · rw [if_neg h]
      by_cases h2 : isWs d = true
      · rw [if_pos h2]; simp
      · rw [if_neg h2]; exact Nat.le_refl _
theorem escS_len (l : List Nat) : (escS l).2.1.length ≤ l.length := by
  cases l with
  | nil => exact Nat.le_refl _
  | cons c t =>
    unfold escS
    dsimp only
    cases hexv c with
    | none => simp
    | some x =>
      dsimp only
      have := escTail_len (hexRunC 5 x t).2
      have := hexRunC_len 5 x t
      simp only [List.length_cons]; omega
theorem nlS_cp (l : List Nat) (h : ∀ c ∈ l, Cp c) : ∀ c ∈ nlS l, Cp c := by
  cases l with
  | nil => exact h
  | cons c t =>
    rw [nlS_cons]
    by_cases hc : c = 13
    · rw [if_pos hc]; exact dropLfC_cp t fun d hd => h d (by simp [hd])
    · rw [if_neg hc]; exact fun d hd => h d (by simp [hd])
theorem escTail_cp (l : List Nat) (h : ∀ c ∈ l, Cp c) : ∀ c ∈ (escTail l).1, Cp c := by
  cases l with
  | nil => exact h
  | cons d u =>
    rw [escTail_cons]
    by_cases h1 : isNl d = true
    · rw [if_pos h1]; exact nlS_cp (d :: u) h
    · rw [if_neg h1]
      by_cases h2 : isWs d = true
      · rw [if_pos h2]; exact fun x hx => h x (by simp [hx])
      · rw [if_neg h2]; exact h
theorem escS_cp (l : List Nat) (h : ∀ c ∈ l, Cp c) : Cp (escS l).1 ∧ ∀ c ∈ (escS l).2.1, Cp c := by
  cases l with
  | nil => exact ⟨by show Cp 65533; unfold Cp; omega, h⟩
  | cons c t =>
    unfold escS
    dsimp only
    cases hexv c with
    | none => exact ⟨h c (by simp), fun x hx => h x (by simp [hx])⟩
    | some x => exact ⟨fix_cp _, escTail_cp _ (hexRunC_cp _ _ _ fun y hy => h y (by simp [hy]))⟩
theorem nameF_more : ∀ (f g : Nat) (l : List Nat), l.length ≤ f → l.length ≤ g → nameF f l = nameF g l
  | 0, 0, _, _, _ => rfl
  | 0, g + 1, l, h, _ => by
    have : l = [] := List.eq_nil_of_length_eq_zero (by omega)
    subst this; rfl
  | f + 1, 0, l, _, h => by
    have : l = [] := List.eq_nil_of_length_eq_zero (by omega)
    subst this; rfl
  | f + 1, g + 1, [], _, _ => rfl
  | f + 1, g + 1, c :: t, hf, hg => by
    simp only [List.length_cons] at hf hg
    unfold nameF
    rw [nameF_more f g t (by omega) (by omega)]
    have := escS_len t
    rw [nameF_more f g (escS t).2.1 (by omega) (by omega)]
/-- lexer.name: the name, what is left, whether it is left open. -/
def nameS (l : List Nat) : List Nat × List Nat × Bool := nameF l.length l
theorem nameS_nil : nameS [] = ([], [], false) := rfl
theorem nameS_conts (c : Nat) (t : List Nat) (h : conts c = true) : nameS (c :: t) = (c :: (nameS t).1, (nameS t).2.1, (nameS t).2.2) := by
  show nameF (t.length + 1) (c :: t) = _
  unfold nameF
  rw [if_pos h]; rfl
theorem nameS_esc (t : List Nat) (h : escOk t = true) : nameS (92 :: t) = ((escS t).1 :: (nameS (escS t).2.1).1, (nameS (escS t).2.1).2.1, (escS t).2.2 || (nameS (escS t).2.1).2.2) := by
  show nameF (t.length + 1) (92 :: t) = _
  unfold nameF
  rw [if_neg (by decide), if_pos ⟨rfl, h⟩]
  have := escS_len t
  rw [nameF_more t.length _ (escS t).2.1 this (Nat.le_refl _)]; rfl
theorem nameS_stop (c : Nat) (t : List Nat) (h : ¬ conts c = true) (h2 : ¬ (c = 92 ∧ escOk t = true)) : nameS (c :: t) = ([], c :: t, false) := by
  show nameF (t.length + 1) (c :: t) = _
  unfold nameF
  rw [if_neg h, if_neg h2]
theorem nameS_cp : ∀ (n : Nat) (l : List Nat), l.length ≤ n → (∀ c ∈ l, Cp c) → (∀ c ∈ (nameS l).1, Cp c) ∧ (∀ c ∈ (nameS l).2.1, Cp c)
  | _, [], _, h => ⟨h, h⟩
  | 0, _ :: _, hn, _ => absurd hn (by simp)
  | n + 1, c :: t, hn, h => by
    simp only [List.length_cons] at hn
    have ht : ∀ d ∈ t, Cp d := fun d hd => h d (by simp [hd])
    by_cases h1 : conts c = true
    · rw [nameS_conts c t h1]
      have ih := nameS_cp n t (by omega) ht
      exact ⟨by intro d hd; rcases List.mem_cons.1 hd with rfl | hd; exact h _ (by simp); exact ih.1 d hd, ih.2⟩
    · by_cases h2 : c = 92 ∧ escOk t = true
      · obtain ⟨rfl, h2⟩ := h2
        rw [nameS_esc t h2]
        have he := escS_cp t ht
        have ih := nameS_cp n (escS t).2.1 (by have := escS_len t; omega) he.2
        exact ⟨by intro d hd; rcases List.mem_cons.1 hd with rfl | hd; exact he.1; exact ih.1 d hd, ih.2⟩
      · rw [nameS_stop c t h1 h2]; exact ⟨by simp, h⟩
end Go.Proofs.YtmgkccnfhkcncaaGreatDoor
