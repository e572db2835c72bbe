/-
  Plain Lean, no program: the reference's lexer on code points: escapes and names.
-/
import Derived.Test.YtmgkccnfhkcncaaGreatDoorMathC
namespace Go.Proofs.YtmgkccnfhkcncaaGreatDoor
open Go

/-- The code point that comes next but j; -1 behind the text. -/
def cpAt (l : List Nat) (j : Nat) : Int := match l[j]? with | some c => (c : Int) | none => -1
theorem cpAt_zero_cons (c : Nat) (t : List Nat) : cpAt (c :: t) 0 = (c : Int) := rfl
theorem cpAt_succ_cons (c : Nat) (t : List Nat) (j : Nat) : cpAt (c :: t) (j + 1) = cpAt t j := rfl
theorem cpAt_nil (j : Nat) : cpAt [] j = -1 := by unfold cpAt; simp

/-- lexer.newline. -/
def nlS : List Nat → List Nat
  | [] => []
  | c :: t => if c = 13 then dropLfC t else t
/-- What follows the digits of an escape. -/
def escTail (l : List Nat) : List Nat × Bool := match l with
  | [] => ([], false)
  | d :: u => if isNl d = true then (nlS (d :: u), true) else if isWs d = true then (u, false) else (d :: u, false)
/-- lexer.escape, behind the backslash: its value, what is left, whether it is left open. -/
def escS (l : List Nat) : Nat × List Nat × Bool := match l with
  | [] => (65533, [], true)
  | c :: t => match hexv c with
    | none => (c, t, false)
    | some x => (fix (hexRunC 5 x t).1, (escTail (hexRunC 5 x t).2).1, (escTail (hexRunC 5 x t).2).2)
/-- Is it an escape: what follows is no end of a line. -/
def escOk (t : List Nat) : Bool := match t with | [] => true | d :: _ => !isNl d
/-- lexer.name. -/
def nameF : Nat → List Nat → List Nat × List Nat × Bool
  | 0, l => ([], l, false)
  | _ + 1, [] => ([], [], false)
  | f + 1, c :: t =>
    if conts c = true then (c :: (nameF f t).1, (nameF f t).2.1, (nameF f t).2.2)
    else if c = 92 ∧ escOk t = true then ((escS t).1 :: (nameF f (escS t).2.1).1, (nameF f (escS t).2.1).2.1, (escS t).2.2 || (nameF f (escS t).2.1).2.2)
    else ([], c :: t, false)

theorem nlS_cons (c : Nat) (t : List Nat) : nlS (c :: t) = if c = 13 then dropLfC t else t := rfl
theorem escTail_cons (d : Nat) (u : List Nat) : escTail (d :: u) = if isNl d = true then (nlS (d :: u), true) else if isWs d = true then (u, false) else (d :: u, false) := rfl
theorem nlS_len (l : List Nat) : (nlS l).length ≤ l.length := by
  cases l with
  | nil => exact Nat.le_refl _
  | cons c t =>
    rw [nlS_cons]
    by_cases h : c = 13
    · rw [if_pos h]; have := dropLfC_len t; simp only [List.length_cons]; omega
    · rw [if_neg h]; simp
theorem escTail_len (l : List Nat) : (escTail l).1.length ≤ l.length := by
  cases l with
  | nil => exact Nat.le_refl _
  | cons d u =>
    rw [escTail_cons]
    by_cases h : isNl d = true
    · rw [if_pos h]; exact nlS_len (d :: u)
    · rw [if_neg h]
      by_cases h2 : isWs d = true
      · rw [if_pos h2]; simp
      · rw [if_neg h2]; exact Nat.le_refl _
theorem escS_len (l : List Nat) : (escS l).2.1.length ≤ l.length := by
  cases l with
  | nil => exact Nat.le_refl _
  | cons c t =>
    unfold escS
    dsimp only
    cases hexv c with
    | none => simp
    | some x =>
      dsimp only
      have := escTail_len (hexRunC 5 x t).2
      have := hexRunC_len 5 x t
      simp only [List.length_cons]; omega
theorem nlS_cp (l : List Nat) (h : ∀ c ∈ l, Cp c) : ∀ c ∈ nlS l, Cp c := by
  cases l with
  | nil => exact h
  | cons c t =>
    rw [nlS_cons]
    by_cases hc : c = 13
    · rw [if_pos hc]; exact dropLfC_cp t fun d hd => h d (by simp [hd])
    · rw [if_neg hc]; exact fun d hd => h d (by simp [hd])
theorem escTail_cp (l : List Nat) (h : ∀ c ∈ l, Cp c) : ∀ c ∈ (escTail l).1, Cp c := by
  cases l with
  | nil => exact h
  | cons d u =>
    rw [escTail_cons]
    by_cases h1 : isNl d = true
    · rw [if_pos h1]; exact nlS_cp (d :: u) h
    · rw [if_neg h1]
      by_cases h2 : isWs d = true
      · rw [if_pos h2]; exact fun x hx => h x (by simp [hx])
      · rw [if_neg h2]; exact h
theorem escS_cp (l : List Nat) (h : ∀ c ∈ l, Cp c) : Cp (escS l).1 ∧ ∀ c ∈ (escS l).2.1, Cp c := by
  cases l with
  | nil => exact ⟨by show Cp 65533; unfold Cp; omega, h⟩
  | cons c t =>
    unfold escS
    dsimp only
    cases hexv c with
    | none => exact ⟨h c (by simp), fun x hx => h x (by simp [hx])⟩
    | some x => exact ⟨fix_cp _, escTail_cp _ (hexRunC_cp _ _ _ fun y hy => h y (by simp [hy]))⟩
theorem nameF_more : ∀ (f g : Nat) (l : List Nat), l.length ≤ f → l.length ≤ g → nameF f l = nameF g l
  | 0, 0, _, _, _ => rfl
  | 0, g + 1, l, h, _ => by
    have : l = [] := List.eq_nil_of_length_eq_zero (by omega)
    subst this; rfl
  | f + 1, 0, l, _, h => by
    have : l = [] := List.eq_nil_of_length_eq_zero (by omega)
    subst this; rfl
  | f + 1, g + 1, [], _, _ => rfl
  | f + 1, g + 1, c :: t, hf, hg => by
    simp only [List.length_cons] at hf hg
    unfold nameF
    rw [nameF_more f g t (by omega) (by omega)]
    have := escS_len t
    rw [nameF_more f g (escS t).2.1 (by omega) (by omega)]
/-- lexer.name: the name, what is left, whether it is left open. -/
def nameS (l : List Nat) : List Nat × List Nat × Bool := nameF l.length l
theorem nameS_nil : nameS [] = ([], [], false) := rfl
theorem nameS_conts (c : Nat) (t : List Nat) (h : conts c = true) : nameS (c :: t) = (c :: (nameS t).1, (nameS t).2.1, (nameS t).2.2) := by
  show nameF (t.length + 1) (c :: t) = _
  unfold nameF
  rw [if_pos h]; rfl
theorem nameS_esc (t : List Nat) (h : escOk t = true) : nameS (92 :: t) = ((escS t).1 :: (nameS (escS t).2.1).1, (nameS (escS t).2.1).2.1, (escS t).2.2 || (nameS (escS t).2.1).2.2) := by
  show nameF (t.length + 1) (92 :: t) = _
  unfold nameF
  rw [if_neg (by decide), if_pos ⟨rfl, h⟩]
  have := escS_len t
  rw [nameF_more t.length _ (escS t).2.1 this (Nat.le_refl _)]; rfl
theorem nameS_stop (c : Nat) (t : List Nat) (h : ¬ conts c = true) (h2 : ¬ (c = 92 ∧ escOk t = true)) : nameS (c :: t) = ([], c :: t, false) := by
  show nameF (t.length + 1) (c :: t) = _
  unfold nameF
  rw [if_neg h, if_neg h2]
theorem nameS_cp : ∀ (n : Nat) (l : List Nat), l.length ≤ n → (∀ c ∈ l, Cp c) → (∀ c ∈ (nameS l).1, Cp c) ∧ (∀ c ∈ (nameS l).2.1, Cp c)
  | _, [], _, h => ⟨h, h⟩
  | 0, _ :: _, hn, _ => absurd hn (by simp)
  | n + 1, c :: t, hn, h => by
    simp only [List.length_cons] at hn
    have ht : ∀ d ∈ t, Cp d := fun d hd => h d (by simp [hd])
    by_cases h1 : conts c = true
    · rw [nameS_conts c t h1]
      have ih := nameS_cp n t (by omega) ht
      exact ⟨by intro d hd; rcases List.mem_cons.1 hd with rfl | hd; exact h _ (by simp); exact ih.1 d hd, ih.2⟩
    · by_cases h2 : c = 92 ∧ escOk t = true
      · obtain ⟨rfl, h2⟩ := h2
        rw [nameS_esc t h2]
        have he := escS_cp t ht
        have ih := nameS_cp n (escS t).2.1 (by have := escS_len t; omega) he.2
        exact ⟨by intro d hd; rcases List.mem_cons.1 hd with rfl | hd; exact he.1; exact ih.1 d hd, ih.2⟩
      · rw [nameS_stop c t h1 h2]; exact ⟨by simp, h⟩
end Go.Proofs.YtmgkccnfhkcncaaGreatDoor
