/-
  Plain Lean, no program: code points and their bytes; decoding what was encoded.
-/
import Derived.Lib.TrimUEq
import Derived.Lib.MapLaws
import Derived.Lib.QuoteLoop
import Derived.Lib.RuneBytes
namespace Go.Proofs.YtmgkccnfhkcncaaGreatDoor
open Go

/-- A code point that a plain text can hold. -/
def Cp (c : Nat) : Prop := 1 ≤ c ∧ (c < 55296 ∨ (57343 < c ∧ c ≤ 1114111))

/-- The bytes of a code point. -/
def enc (c : Nat) : List UInt8 := Lib.encodeRune (c : Int)
/-- The bytes of code points. -/
def encs (l : List Nat) : List UInt8 := l.flatMap enc

theorem encs_nil : encs [] = [] := rfl
theorem encs_cons (c : Nat) (l : List Nat) : encs (c :: l) = enc c ++ encs l := by simp [encs]
theorem encs_append (a b : List Nat) : encs (a ++ b) = encs a ++ encs b := by simp [encs]
theorem encs_one (c : Nat) : encs [c] = enc c := by simp [encs]

theorem byte_toNat (x : Int) (h0 : 0 ≤ x) (h1 : x < 256) : x.toNat.toUInt8.toNat = x.toNat := by
  have : x.toNat < 256 := by omega
  simp [Nat.toUInt8, UInt8.toNat_ofNat']
  omega

theorem enc_len (c : Nat) : 1 ≤ (enc c).length ∧ (enc c).length ≤ 4 := by
  unfold enc Lib.encodeRune
  rw [List.length_map]
  exact Lib.encodeRuneZ_length _

theorem enc_ascii (c : Nat) (h : c < 128) : enc c = [c.toUInt8] := by
  unfold enc Lib.encodeRune
  rw [Lib.encodeRuneZ_one (by omega) (by omega)]
  simp

theorem enc_ne (c : Nat) : enc c ≠ [] := by
  intro h; have := (enc_len c).1; rw [h] at this; simp at this

theorem dec_enc (c : Nat) (h : Cp c) (r : List UInt8) : Lib.decodeL (enc c ++ r) = (c, (enc c).length) := by
  obtain ⟨h1, h2⟩ := h
  rw [Lib.decodeL_N]
  unfold enc Lib.encodeRune
  by_cases a : c < 128
  · rw [Lib.encodeRuneZ_one (by omega) (by omega)]
    simp only [List.map_cons, List.map_nil, List.cons_append, List.nil_append, List.getD_cons_zero, List.length_cons, List.length_nil]
    rw [byte_toNat _ (by omega) (by omega), Lib.decodeN_ascii _ _ _ _ _ (by omega)]
    simp
  · by_cases b : c < 2048
    · rw [Lib.encodeRuneZ_two (by omega) (by omega)]
      simp only [List.map_cons, List.map_nil, List.cons_append, List.nil_append, List.getD_cons_zero, List.getD_cons_succ, List.length_cons, List.length_nil]
      rw [byte_toNat _ (by omega) (by omega), byte_toNat _ (by omega) (by omega)]
      unfold Lib.decodeN
      rw [if_neg (by omega), if_pos (by omega), if_pos (by omega)]
      congr 1; omega
    · by_cases d : c < 65536
      · rw [Lib.encodeRuneZ_three (by omega)]
        simp only [List.map_cons, List.map_nil, List.cons_append, List.nil_append, List.getD_cons_zero, List.getD_cons_succ, List.length_cons, List.length_nil]
        rw [byte_toNat _ (by omega) (by omega), byte_toNat _ (by omega) (by omega), byte_toNat _ (by omega) (by omega)]
        unfold Lib.decodeN
        rw [if_neg (by omega), if_neg (by omega), if_pos (by omega), if_pos (by omega)]
        congr 1; omega
      · rw [Lib.encodeRuneZ_four (by omega) (by omega)]
        simp only [List.map_cons, List.map_nil, List.cons_append, List.nil_append, List.getD_cons_zero, List.getD_cons_succ, List.length_cons, List.length_nil]
        rw [byte_toNat _ (by omega) (by omega), byte_toNat _ (by omega) (by omega), byte_toNat _ (by omega) (by omega), byte_toNat _ (by omega) (by omega)]
        unfold Lib.decodeN
        rw [if_neg (by omega), if_neg (by omega), if_neg (by omega), if_pos (by omega), if_pos (by omega)]
        congr 1; omega

theorem dec_encs (c : Nat) (h : Cp c) (l : List Nat) : Lib.decodeL (encs (c :: l)) = (c, (enc c).length) := by
  rw [encs_cons]; exact dec_enc c h _
theorem drop_encs (c : Nat) (l : List Nat) : (encs (c :: l)).drop (enc c).length = encs l := by
  rw [encs_cons, List.drop_left]
theorem encs_cons_ne (c : Nat) (l : List Nat) : encs (c :: l) ≠ [] := by
  rw [encs_cons]; intro h; exact enc_ne c (List.append_eq_nil_iff.1 h).1
theorem encs_eq_nil (l : List Nat) : encs l = [] ↔ l = [] := by
  cases l with
  | nil => simp [encs]
  | cons c t => simp [encs_cons_ne]
theorem encs_len_le (l : List Nat) : l.length ≤ (encs l).length := by
  induction l with
  | nil => simp [encs]
  | cons c t ih => rw [encs_cons, List.length_append, List.length_cons]; have := (enc_len c).1; omega
theorem encs_len_ge (l : List Nat) : (encs l).length ≤ 4 * l.length := by
  induction l with
  | nil => simp [encs]
  | cons c t ih => rw [encs_cons, List.length_append, List.length_cons]; have := (enc_len c).2; omega
theorem encs_inj : ∀ (a b : List Nat), (∀ c ∈ a, Cp c) → (∀ c ∈ b, Cp c) → encs a = encs b → a = b
  | [], [], _, _, _ => rfl
  | [], c :: t, _, _, h => absurd h.symm (encs_cons_ne c t)
  | c :: t, [], _, _, h => absurd h (encs_cons_ne c t)
  | c :: t, d :: u, ha, hb, h => by
    have h1 := dec_encs c (ha c (by simp)) t
    have h2 := dec_encs d (hb d (by simp)) u
    rw [h, h2] at h1
    have e1 : d = c := congrArg Prod.fst h1
    subst e1
    have h3 : encs t = encs u := by rw [← drop_encs d t, ← drop_encs d u, h]
    rw [encs_inj t u (fun c hc => ha c (by simp [hc])) (fun c hc => hb c (by simp [hc])) h3]

/-- What unicode/utf8.DecodeRuneInString hands back, of a list of bytes. -/
def decG (l : List UInt8) : Nat × Nat := if l = [] then (65533, 0) else Lib.decodeL l

/-- spec.runeAt, of what stands at the place: -1, 0 behind the text; -2, 1 for what is no UTF-8. -/
def runeZ (l : List UInt8) : Int × Nat :=
  if l = [] then (-1, 0) else if (Lib.decodeL l).1 = 65533 ∧ (Lib.decodeL l).2 = 1 then (-2, 1) else (((Lib.decodeL l).1 : Int), (Lib.decodeL l).2)

theorem runeZ_nil : runeZ [] = (-1, 0) := rfl
theorem runeZ_encs (c : Nat) (h : Cp c) (l : List Nat) : runeZ (encs (c :: l)) = ((c : Int), (enc c).length) := by
  unfold runeZ
  rw [if_neg (encs_cons_ne c l), dec_encs c h, if_neg]
  rintro ⟨h1, h2⟩
  simp only at h1 h2
  subst h1
  have : (enc 65533).length = 3 := by rfl
  omega

/-- spec.IsPlain from a place on, by fuel. -/
def plainF : Nat → List UInt8 → Bool
  | 0, _ => true
  | f + 1, l => if l = [] then true else if (runeZ l).1 = -2 ∨ (runeZ l).1 = 0 then false else plainF f (l.drop (runeZ l).2)

/-- spec.IsPlain. -/
def plainL (l : List UInt8) : Bool := !(decide ((runeZ l).1 = 65279)) && plainF l.length l

theorem runeZ_width (l : List UInt8) (h : l ≠ []) : 1 ≤ (runeZ l).2 ∧ (runeZ l).2 ≤ l.length := by
  have h0 : 0 < l.length := List.length_pos_iff.2 h
  unfold runeZ
  rw [if_neg h]
  split
  · exact ⟨Nat.le_refl _, h0⟩
  · exact ⟨Lib.decodeL_width l, Lib.decodeL_le l h⟩

theorem plainF_cps : ∀ (f : Nat) (l : List UInt8), l.length ≤ f → plainF f l = true → ∃ cps : List Nat, l = encs cps ∧ ∀ c ∈ cps, Cp c
  | 0, l, hf, _ => by
    have : l = [] := List.eq_nil_of_length_eq_zero (by omega)
    subst this
    exact ⟨[], rfl, by simp⟩
  | f + 1, l, hf, h => by
    by_cases hl : l = []
    · subst hl; exact ⟨[], rfl, by simp⟩
    · have hw := runeZ_width l hl
      unfold plainF at h
      rw [if_neg hl] at h
      by_cases hb : (runeZ l).1 = -2 ∨ (runeZ l).1 = 0
      · rw [if_pos hb] at h; exact absurd h (by simp)
      · rw [if_neg hb] at h
        obtain ⟨cps, e, hc⟩ := plainF_cps f (l.drop (runeZ l).2) (by rw [List.length_drop]; omega) h
        have hv : ¬ ((Lib.decodeL l).1 = 65533 ∧ (Lib.decodeL l).2 = 1) := by
          intro hv; apply hb; left; unfold runeZ; rw [if_neg hl, if_pos hv]
        have hr : runeZ l = (((Lib.decodeL l).1 : Int), (Lib.decodeL l).2) := by unfold runeZ; rw [if_neg hl, if_neg hv]
        have he := Lib.encode_decode l hl hv
        have hval := Lib.decodeN_valid l.length (l.getD 0 0).toNat (l.getD 1 0).toNat (l.getD 2 0).toNat (l.getD 3 0).toNat (UInt8.toNat_lt _)
        rw [← Lib.decodeL_N] at hval
        refine ⟨(Lib.decodeL l).1 :: cps, ?_, ?_⟩
        · rw [encs_cons, ← e, hr]
          unfold enc
          rw [he, List.take_append_drop]
        · intro c hcm
          rcases List.mem_cons.1 hcm with rfl | hcm
          · refine ⟨?_, by omega⟩
            rcases Nat.eq_zero_or_pos (Lib.decodeL l).1 with h0 | h0
            · exfalso; apply hb; right; rw [hr]; simp [h0]
            · exact h0
          · exact hc c hcm

theorem plainF_encs : ∀ (f : Nat) (cps : List Nat), (∀ c ∈ cps, Cp c) → plainF f (encs cps) = true
  | 0, _, _ => rfl
  | f + 1, [], _ => by simp [plainF, encs]
  | f + 1, c :: t, h => by
    have hc := h c (by simp)
    unfold plainF
    rw [if_neg (encs_cons_ne c t), runeZ_encs c hc, if_neg (by unfold Cp at hc; simp only; omega), drop_encs]
    exact plainF_encs f t fun d hd => h d (by simp [hd])

theorem plainL_cps {l : List UInt8} (h : plainL l = true) : ∃ cps : List Nat, l = encs cps ∧ (∀ c ∈ cps, Cp c) ∧ cps.head? ≠ some 65279 := by
  unfold plainL at h
  rw [Bool.and_eq_true] at h
  obtain ⟨cps, rfl, hc⟩ := plainF_cps _ _ (Nat.le_refl _) h.2
  refine ⟨cps, rfl, hc, ?_⟩
  cases cps with
  | nil => simp
  | cons c t =>
    have h1 := h.1
    rw [runeZ_encs c (hc c (by simp))] at h1
    simp at h1 ⊢
    omega

theorem plainL_x {l : List UInt8} (h : plainL (120 :: l) = true) : ∃ cps : List Nat, l = encs cps ∧ ∀ c ∈ cps, Cp c := by
  obtain ⟨cps, e, hc, _⟩ := plainL_cps h
  have hx : enc 120 = [120] := by rw [enc_ascii 120 (by omega)]; rfl
  have e0 : (120 : UInt8) :: l = enc 120 ++ l := by rw [hx]; rfl
  cases cps with
  | nil => simp [encs] at e
  | cons c t =>
    have h1 := dec_encs c (hc c (by simp)) t
    rw [← e, e0, dec_enc 120 (by unfold Cp; omega)] at h1
    have e1 : 120 = c := congrArg Prod.fst h1
    subst e1
    refine ⟨t, ?_, fun d hd => hc d (by simp [hd])⟩
    rw [← drop_encs 120 t, ← e, hx]; rfl
end Go.Proofs.YtmgkccnfhkcncaaGreatDoor
