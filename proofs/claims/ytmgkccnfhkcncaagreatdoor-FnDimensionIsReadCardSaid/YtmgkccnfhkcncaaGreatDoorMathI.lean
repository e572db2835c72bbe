/-
  Plain Lean, no program: css_lexer's lexer on bytes; on code points it is the reference's.
-/
import Derived.Test.YtmgkccnfhkcncaaGreatDoorMathG
namespace Go.Proofs.YtmgkccnfhkcncaaGreatDoor
open Go

/-- The code point at a place; -1 behind the text. -/
def hdB (r : List UInt8) : Int := if r = [] then -1 else ((Lib.decodeL r).1 : Int)
/-- What follows it. -/
def tlB (r : List UInt8) : List UInt8 := r.drop (Lib.decodeL r).2
theorem hdB_nil : hdB [] = -1 := rfl
theorem tlB_nil : tlB [] = [] := by unfold tlB; simp
theorem hdB_cons {r : List UInt8} (h : r ≠ []) : hdB r = ((Lib.decodeL r).1 : Int) := if_neg h
theorem hdB_encs (l : List Nat) (h : ∀ c ∈ l, Cp c) : hdB (encs l) = cpAt l 0 := by
  cases l with
  | nil => rfl
  | cons c t => rw [hdB_cons (encs_cons_ne c t), dec_encs c (h c (by simp))]; rfl
theorem tlB_encs (l : List Nat) (h : ∀ c ∈ l, Cp c) : tlB (encs l) = encs l.tail := by
  cases l with
  | nil => exact tlB_nil
  | cons c t => unfold tlB; rw [dec_encs c (h c (by simp))]; exact drop_encs c t
theorem tlB_len {r : List UInt8} (h : r ≠ []) : (tlB r).length < r.length := by
  have h1 := Lib.decodeL_width r
  have h2 := List.length_pos_iff.2 h
  unfold tlB; rw [List.length_drop]; omega
theorem tlB_le (r : List UInt8) : (tlB r).length ≤ r.length := by unfold tlB; rw [List.length_drop]; omega
/-- How many bytes the next code point has. -/
def widB (r : List UInt8) : Nat := (decG r).2
theorem widB_le (r : List UInt8) : widB r ≤ r.length := by
  unfold widB decG
  by_cases h : r = []
  · rw [if_pos h]; exact Nat.zero_le _
  · rw [if_neg h]; exact Lib.decodeL_le r h
theorem widB_pos {r : List UInt8} (h : r ≠ []) : 1 ≤ widB r := by
  unfold widB decG
  rw [if_neg h]; exact Lib.decodeL_width r
theorem tlB_drop (r : List UInt8) : tlB r = r.drop (widB r) := by
  unfold widB decG tlB
  by_cases h : r = []
  · subst h; simp
  · rw [if_neg h]
theorem hdB_range (r : List UInt8) : -1 ≤ hdB r ∧ hdB r ≤ 1114111 := by
  have := Lib.decodeL_rune r
  unfold hdB
  split <;> omega
theorem hdB_end {r : List UInt8} (h : hdB r = -1) : r = [] := by
  by_cases h2 : r = []
  · exact h2
  · rw [hdB_cons h2] at h; omega
theorem tlB_suf (r : List UInt8) : tlB r <:+ r := List.drop_suffix _ _
/-- What DecodeRuneInString says of what follows. -/
theorem decG_encs (l : List Nat) (h : ∀ c ∈ l, Cp c) : decG (encs l) = match l with | [] => (65533, 0) | c :: _ => (c, (enc c).length) := by
  cases l with
  | nil => rfl
  | cons c t => unfold decG; rw [if_neg (encs_cons_ne c t), dec_encs c (h c (by simp))]
/-- Is it a valid escape. -/
def vescB (r : List UInt8) : Bool := decide (hdB r = 92) && !nlB ((decG (tlB r)).1 : Int)
theorem vescB_nil : vescB [] = false := rfl
theorem vescB_encs (c : Nat) (t : List Nat) (h : ∀ d ∈ c :: t, Cp d) : vescB (encs (c :: t)) = decide (c = 92 ∧ escOk t = true) := by
  unfold vescB
  rw [hdB_encs _ h, tlB_encs _ h, cpAt_zero_cons, List.tail_cons, ← escZ_ok]
  unfold escZ
  congr 1
  cases t with
  | nil => rfl
  | cons d u => rw [decG_encs _ (fun e he => h e (by simp [he])), cpAt_zero_cons]
/-- Would an identifier begin. -/
def wouldB (r : List UInt8) : Bool :=
  if nsB (hdB r) = true then true
  else if hdB r = 45 then
    (if (decG (tlB r)).1 = 65533 ∧ (decG (tlB r)).2 ≤ 1 then false
     else nsB ((decG (tlB r)).1 : Int) || decide ((decG (tlB r)).1 = 45) || (decide ((decG (tlB r)).1 = 92) && !nlB ((decG ((tlB r).drop (decG (tlB r)).2)).1 : Int)))
  else vescB r
theorem wouldB_encs (l : List Nat) (h : ∀ d ∈ l, Cp d) : wouldB (encs l) = identZ (cpAt l 0) (cpAt l 1) (cpAt l 2) := by
  cases l with
  | nil => rfl
  | cons c t =>
    have hc := h c (by simp)
    have ht : ∀ d ∈ t, Cp d := fun d hd => h d (by simp [hd])
    unfold wouldB
    rw [hdB_encs _ h, tlB_encs _ h, cpAt_zero_cons, List.tail_cons, cpAt_succ_cons, cpAt_succ_cons, vescB_encs c t h, ns_nat c (by unfold Cp at hc; omega)]
    unfold identZ
    by_cases h45 : c = 45
    · subst h45
      rw [if_neg (by decide), if_pos (show ((45 : Nat) : Int) = 45 from rfl), if_pos (show ((45 : Nat) : Int) = 45 from rfl)]
      cases t with
      | nil => rfl
      | cons d u =>
        have hd := ht d (by simp)
        rw [decG_encs _ ht, cpAt_zero_cons, cpAt_succ_cons]
        dsimp only
        have hw : ¬ (d = 65533 ∧ (enc d).length ≤ 1) := by
          rintro ⟨rfl, h2⟩
          have : (enc 65533).length = 3 := by rfl
          omega
        rw [if_neg hw, drop_encs, ns_ss (by unfold Cp at hd; omega)]
        have e1 : decide (d = 45) = decide ((d : Int) = 45) := by rw [Bool.eq_iff_iff, decide_eq_true_iff, decide_eq_true_iff]; omega
        rw [e1]
        congr 1
        unfold escZ
        have e2 : decide (d = 92) = decide ((d : Int) = 92) := by rw [Bool.eq_iff_iff, decide_eq_true_iff, decide_eq_true_iff]; omega
        rw [e2]
        congr 1
        cases u with
        | nil => rfl
        | cons e v => rw [decG_encs _ (fun x hx => ht x (by simp [hx])), cpAt_zero_cons]
    · rw [if_neg (show ¬ ((c : Int) = 45) by omega), if_neg (show ¬ ((c : Int) = 45) by omega), escZ_ok, ss_nat]
      cases starts c with
      | true => rfl
      | false => rfl
/-- consumeName ahead of the first escape. -/
def contB (b : UInt8) : Bool := ncB (b.toNat : Int)
def fastB (r : List UInt8) : List UInt8 := if ncB (hdB r) = true then (tlB r).dropWhile contB else r
theorem dropWhile_len {α : Type} (p : α → Bool) : ∀ l : List α, (l.dropWhile p).length ≤ l.length
  | [] => Nat.le_refl _
  | a :: t => by
    rw [List.dropWhile_cons]
    split
    · have := dropWhile_len p t; simp only [List.length_cons]; omega
    · exact Nat.le_refl _
theorem fastB_le (r : List UInt8) : (fastB r).length ≤ r.length := by
  unfold fastB
  split
  · have := dropWhile_len contB (tlB r); have := tlB_le r; omega
  · exact Nat.le_refl _
/-- consumeEscape: its value, what is left. -/
def escV (r : List UInt8) : Nat × List UInt8 :=
  if hdB (tlB r) = -1 then (65533, [])
  else match hexv (Lib.decodeL (tlB r)).1 with
    | some h => (fix (hexRunB 5 h (tlB (tlB r))).1, dropWsB (hexRunB 5 h (tlB (tlB r))).2)
    | none => ((Lib.decodeL (tlB r)).1, tlB (tlB r))
theorem escV_le (r : List UInt8) : (escV r).2.length ≤ (tlB r).length := by
  unfold escV
  split
  · simp
  · split
    · rename_i h _
      have := hexRunB_len 5 h (tlB (tlB r))
      have := dropWsB_len (hexRunB 5 h (tlB (tlB r))).2
      have := tlB_le (tlB r)
      dsimp only; omega
    · exact tlB_le _
/-- The loop of consumeName: what is written, what is left. -/
def nloopF : Nat → List UInt8 → List UInt8 × List UInt8
  | 0, r => ([], r)
  | f + 1, r =>
    if ncB (hdB r) = true then (Lib.encodeRune (hdB r) ++ (nloopF f (tlB r)).1, (nloopF f (tlB r)).2)
    else if vescB r = true then (Lib.encodeRune ((escV r).1 : Int) ++ (nloopF f (escV r).2).1, (nloopF f (escV r).2).2)
    else ([], r)
theorem nc_ne {r : List UInt8} (h : ncB (hdB r) = true) : r ≠ [] := by rintro rfl; exact absurd h (by decide)
theorem esc_ne {r : List UInt8} (h : vescB r = true) : r ≠ [] := by rintro rfl; exact absurd h (by decide)
theorem nloopF_more : ∀ (f g : Nat) (r : List UInt8), r.length < f → r.length < g → nloopF f r = nloopF g r
  | 0, _, _, h, _ => absurd h (by omega)
  | _ + 1, 0, _, _, h => absurd h (by omega)
  | f + 1, g + 1, r, hf, hg => by
    unfold nloopF
    by_cases h1 : ncB (hdB r) = true
    · have := tlB_len (nc_ne h1)
      rw [if_pos h1, if_pos h1, nloopF_more f g (tlB r) (by omega) (by omega)]
    · rw [if_neg h1, if_neg h1]
      by_cases h2 : vescB r = true
      · have := tlB_len (esc_ne h2)
        have := escV_le r
        rw [if_pos h2, if_pos h2, nloopF_more f g (escV r).2 (by omega) (by omega)]
      · rw [if_neg h2, if_neg h2]
def nloopB (r : List UInt8) : List UInt8 × List UInt8 := nloopF (r.length + 1) r
theorem nloopB_conts {r : List UInt8} (h : ncB (hdB r) = true) : nloopB r = (Lib.encodeRune (hdB r) ++ (nloopB (tlB r)).1, (nloopB (tlB r)).2) := by
  have := tlB_len (nc_ne h)
  unfold nloopB
  conv => lhs; unfold nloopF
  rw [if_pos h, nloopF_more _ ((tlB r).length + 1) (tlB r) (by omega) (by omega)]
theorem nloopB_esc {r : List UInt8} (h : ¬ ncB (hdB r) = true) (h2 : vescB r = true) : nloopB r = (Lib.encodeRune ((escV r).1 : Int) ++ (nloopB (escV r).2).1, (nloopB (escV r).2).2) := by
  have := tlB_len (esc_ne h2)
  have := escV_le r
  unfold nloopB
  conv => lhs; unfold nloopF
  rw [if_neg h, if_pos h2, nloopF_more _ ((escV r).2.length + 1) (escV r).2 (by omega) (by omega)]
theorem nloopB_stop {r : List UInt8} (h : ¬ ncB (hdB r) = true) (h2 : ¬ vescB r = true) : nloopB r = ([], r) := by
  unfold nloopB nloopF
  rw [if_neg h, if_neg h2]
end Go.Proofs.YtmgkccnfhkcncaaGreatDoor
