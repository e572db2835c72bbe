/-
  Plain Lean: spaces, digits, how an identifier begins. Plain Lean, no program: the reference's lexer on code points: tokens, comments, whether it is left open. Plain Lean, no program: is a name url. Plain Lean, no program: css_lexer's lexer on bytes; on code points it is the reference's. Plain Lean, no program: css_lexer's lexer on bytes, its tokens.
-/
import Derived.Test.YtmgkccnfhkcncaaGreatDoorMA
import Derived.Test.YtmgkccnfhkcncaaGreatDoorChr
import Derived.Lib.MapLaws
import Derived.Lib.TrimAscii
namespace Go.Proofs.YtmgkccnfhkcncaaGreatDoor
open Go

/-- What is left behind what is spaces. -/
def spS : List Nat → List Nat
  | [] => []
  | c :: t => if isWs c = true then spS t else c :: t
theorem spS_cons (c : Nat) (t : List Nat) : spS (c :: t) = if isWs c = true then spS t else c :: t := rfl
/-- What is left behind digits. -/
def dgS : List Nat → List Nat
  | [] => []
  | c :: t => if isDg c = true then dgS t else c :: t
theorem dgS_cons (c : Nat) (t : List Nat) : dgS (c :: t) = if isDg c = true then dgS t else c :: t := rfl
def identZ (a b c : Int) : Bool := if a = 45 then ssB b || decide (b = 45) || escZ b c else ssB a || escZ a b
theorem escZ_ok (c : Nat) (t : List Nat) : escZ (c : Int) (cpAt t 0) = decide (c = 92 ∧ escOk t = true) := by
  unfold escZ
  have e : (!nlB (cpAt t 0)) = escOk t := by
    cases t with
    | nil => rfl
    | cons d u => rw [cpAt_zero_cons, nl_nat]; rfl
  rw [e]
  by_cases h : c = 92
  · subst h
    cases escOk t <;> decide
  · rw [decide_eq_false (show ¬ ((c : Int) = 92) by omega), decide_eq_false (fun hh => h hh.1)]; rfl
theorem escS_none {c : Nat} (t : List Nat) (h : hexv c = none) : escS (c :: t) = (c, t, false) := by unfold escS; dsimp only; rw [h]
theorem escS_some {c x : Nat} (t : List Nat) (h : hexv c = some x) : escS (c :: t) = (fix (hexRunC 5 x t).1, (escTail (hexRunC 5 x t).2).1, (escTail (hexRunC 5 x t).2).2) := by unfold escS; dsimp only; rw [h]
theorem escS_nil : escS [] = (65533, [], true) := rfl
end Go.Proofs.YtmgkccnfhkcncaaGreatDoor

namespace Go.Proofs.YtmgkccnfhkcncaaGreatDoor
open Go

/-- A token: its kind, where its unit begins, whether it is an ID, its text. -/
structure Tk where
  kind : Nat
  unit : Nat
  id : Bool
  text : List Nat

theorem spS_len (l : List Nat) : (spS l).length ≤ l.length := by
  induction l with
  | nil => exact Nat.le_refl _
  | cons c t ih =>
    rw [spS_cons]
    by_cases h : isWs c = true
    · rw [if_pos h]; simp only [List.length_cons]; omega
    · rw [if_neg h]; exact Nat.le_refl _
theorem dgS_len (l : List Nat) : (dgS l).length ≤ l.length := by
  induction l with
  | nil => exact Nat.le_refl _
  | cons c t ih =>
    rw [dgS_cons]
    by_cases h : isDg c = true
    · rw [if_pos h]; simp only [List.length_cons]; omega
    · rw [if_neg h]; exact Nat.le_refl _

/-! ### quoted -/
/-- lexer.quoted behind the quote: is it a string; its text, what is left, whether it is left open. -/
def quotF (q : Nat) : Nat → List Nat → Bool × List Nat × List Nat × Bool
  | 0, l => (true, [], l, true)
  | _ + 1, [] => (true, [], [], true)
  | f + 1, c :: t =>
    if c = q then (true, [], t, false)
    else if isNl c = true then (false, [], c :: t, false)
    else if c = 92 then match t with
      | [] => (true, [], [], true)
      | d :: u =>
        if isNl d = true then quotF q f (nlS (d :: u))
        else ((quotF q f (escS (d :: u)).2.1).1, (escS (d :: u)).1 :: (quotF q f (escS (d :: u)).2.1).2.1, (quotF q f (escS (d :: u)).2.1).2.2.1, (escS (d :: u)).2.2 || (quotF q f (escS (d :: u)).2.1).2.2.2)
    else ((quotF q f t).1, c :: (quotF q f t).2.1, (quotF q f t).2.2.1, (quotF q f t).2.2.2)
theorem quotF_more (q : Nat) : ∀ (f g : Nat) (l : List Nat), l.length < f → l.length < g → quotF q f l = quotF q g l
  | 0, _, _, h, _ => absurd h (by omega)
  | _ + 1, 0, _, _, h => absurd h (by omega)
  | f + 1, g + 1, [], _, _ => rfl
  | f + 1, g + 1, c :: t, hf, hg => by
    simp only [List.length_cons] at hf hg
    unfold quotF
    rw [quotF_more q f g t (by omega) (by omega)]
    cases t with
    | nil => rfl
    | cons d u =>
      have h1 := escS_len (d :: u)
      have h2 := nlS_len (d :: u)
      dsimp only
      rw [quotF_more q f g (escS (d :: u)).2.1 (by omega) (by omega), quotF_more q f g (nlS (d :: u)) (by omega) (by omega)]
def quotS (q : Nat) (l : List Nat) : Bool × List Nat × List Nat × Bool := quotF q (l.length + 1) l
theorem quotS_nil (q : Nat) : quotS q [] = (true, [], [], true) := rfl
theorem quotS_end (q : Nat) (t : List Nat) : quotS q (q :: t) = (true, [], t, false) := by
  unfold quotS quotF; rw [if_pos rfl]
theorem quotS_nl (q c : Nat) (t : List Nat) (h : c ≠ q) (h2 : isNl c = true) : quotS q (c :: t) = (false, [], c :: t, false) := by
  unfold quotS quotF; rw [if_neg h, if_pos h2]
theorem quotS_last (q : Nat) (h : 92 ≠ q) : quotS q [92] = (true, [], [], true) := by
  unfold quotS quotF; rw [if_neg h, if_neg (by decide), if_pos rfl]
theorem quotS_cont (q d : Nat) (u : List Nat) (h : 92 ≠ q) (h2 : isNl d = true) : quotS q (92 :: d :: u) = quotS q (nlS (d :: u)) := by
  have h1 := nlS_len (d :: u)
  unfold quotS
  conv => lhs; unfold quotF
  rw [if_neg h, if_neg (by decide), if_pos rfl]
  dsimp only
  rw [if_pos h2]
  exact quotF_more q _ _ _ (by simp only [List.length_cons] at *; omega) (by omega)
theorem quotS_esc (q d : Nat) (u : List Nat) (h : 92 ≠ q) (h2 : isNl d = false) : quotS q (92 :: d :: u) =
    ((quotS q (escS (d :: u)).2.1).1, (escS (d :: u)).1 :: (quotS q (escS (d :: u)).2.1).2.1, (quotS q (escS (d :: u)).2.1).2.2.1, (escS (d :: u)).2.2 || (quotS q (escS (d :: u)).2.1).2.2.2) := by
  have h1 := escS_len (d :: u)
  unfold quotS
  conv => lhs; unfold quotF
  rw [if_neg h, if_neg (by decide), if_pos rfl]
  dsimp only
  rw [if_neg (by rw [h2]; decide)]
  rw [quotF_more q ((92 :: d :: u).length) ((escS (d :: u)).2.1.length + 1) _ (by simp only [List.length_cons] at *; omega) (by omega)]
theorem quotS_plain (q c : Nat) (t : List Nat) (h : c ≠ q) (h2 : isNl c = false) (h3 : c ≠ 92) : quotS q (c :: t) = ((quotS q t).1, c :: (quotS q t).2.1, (quotS q t).2.2.1, (quotS q t).2.2.2) := by
  unfold quotS
  conv => lhs; unfold quotF
  rw [if_neg h, if_neg (by rw [h2]; decide), if_neg h3]
  rfl

/-! ### numeric -/
/-- The sign. -/
def signS : List Nat → List Nat
  | [] => []
  | c :: t => if c = 43 ∨ c = 45 then t else c :: t
/-- A point and digits; whether a point without digits leaves it open. -/
def pointS : List Nat → List Nat × Bool
  | [] => ([], false)
  | c :: t => if c = 46 then (if dgB (cpAt t 0) = true then (dgS t, false) else (c :: t, true)) else (c :: t, false)
/-- An exponent. -/
def expS : List Nat → List Nat
  | [] => []
  | c :: t => if c = 101 ∨ c = 69 then (if dgB (cpAt t 0) = true ∨ ((cpAt t 0 = 43 ∨ cpAt t 0 = 45) ∧ dgB (cpAt t 1) = true) then dgS t.tail else c :: t) else c :: t
/-- The number itself. -/
def numS (l : List Nat) : List Nat × Bool := (expS (pointS (dgS (signS l))).1, (pointS (dgS (signS l))).2)
/-- How many bytes are still to come. -/
def blen (l : List Nat) : Nat := (encs l).length
/-- lexer.numeric. -/
def numericS (l : List Nat) : Tk × List Nat × Bool :=
  if identZ (cpAt (numS l).1 0) (cpAt (numS l).1 1) (cpAt (numS l).1 2) = true then (⟨26, blen l - blen (numS l).1, false, []⟩, (nameS (numS l).1).2.1, (numS l).2 || (nameS (numS l).1).2.2)
  else if cpAt (numS l).1 0 = 37 then (⟨34, 0, false, []⟩, (numS l).1.tail, (numS l).2)
  else (⟨30, 0, false, []⟩, (numS l).1, (numS l).2)

/-! ### addresses -/
/-- lexer.badURL: what is left, whether it is left open. -/
def badF : Nat → List Nat → List Nat × Bool
  | 0, l => (l, true)
  | _ + 1, [] => ([], true)
  | f + 1, c :: t =>
    if c = 41 then (t, false)
    else if c = 92 ∧ escOk t = true then ((badF f (escS t).2.1).1, true)
    else badF f t
theorem badF_more : ∀ (f g : Nat) (l : List Nat), l.length < f → l.length < g → badF f l = badF g l
  | 0, _, _, h, _ => absurd h (by omega)
  | _ + 1, 0, _, _, h => absurd h (by omega)
  | f + 1, g + 1, [], _, _ => rfl
  | f + 1, g + 1, c :: t, hf, hg => by
    simp only [List.length_cons] at hf hg
    have := escS_len t
    unfold badF
    rw [badF_more f g t (by omega) (by omega), badF_more f g (escS t).2.1 (by omega) (by omega)]
def badS (l : List Nat) : List Nat × Bool := badF (l.length + 1) l
theorem badS_nil : badS [] = ([], true) := rfl
theorem badS_end (t : List Nat) : badS (41 :: t) = (t, false) := by unfold badS badF; rw [if_pos rfl]
theorem badS_esc (t : List Nat) (h : escOk t = true) : badS (92 :: t) = ((badS (escS t).2.1).1, true) := by
  have := escS_len t
  unfold badS
  conv => lhs; unfold badF
  rw [if_neg (by decide), if_pos ⟨rfl, h⟩, badF_more _ ((escS t).2.1.length + 1) _ (by simp only [List.length_cons]; omega) (by omega)]
theorem badS_other (c : Nat) (t : List Nat) (h : c ≠ 41) (h2 : ¬ (c = 92 ∧ escOk t = true)) : badS (c :: t) = badS t := by
  unfold badS
  conv => lhs; unfold badF
  rw [if_neg h, if_neg h2]; rfl
/-- Does this code point spoil an address. -/
def spoils (c : Nat) (t : List Nat) : Bool := decide (c = 34 ∨ c = 39 ∨ c = 40 ∨ (c ≤ 8 ∨ c = 11 ∨ (14 ≤ c ∧ c ≤ 31) ∨ c = 127) ∨ (c = 92 ∧ escOk t = false))
/-- lexer.url: is it an address; its text, what is left, whether it is left open. -/
def urlF : Nat → List Nat → Bool × List Nat × List Nat × Bool
  | 0, l => (true, [], l, true)
  | _ + 1, [] => (true, [], [], true)
  | f + 1, c :: t =>
    if c = 41 then (true, [], t, false)
    else if isWs c = true then
      match spS t with
      | [] => (true, [], [], true)
      | d :: u => if d = 41 then (true, [], u, false) else (false, [], (badS (d :: u)).1, (badS (d :: u)).2)
    else if spoils c t = true then (false, [], (badS (c :: t)).1, (badS (c :: t)).2)
    else if c = 92 then ((urlF f (escS t).2.1).1, (escS t).1 :: (urlF f (escS t).2.1).2.1, (urlF f (escS t).2.1).2.2.1, (escS t).2.2 || (urlF f (escS t).2.1).2.2.2)
    else ((urlF f t).1, c :: (urlF f t).2.1, (urlF f t).2.2.1, (urlF f t).2.2.2)
theorem urlF_more : ∀ (f g : Nat) (l : List Nat), l.length < f → l.length < g → urlF f l = urlF g l
  | 0, _, _, h, _ => absurd h (by omega)
  | _ + 1, 0, _, _, h => absurd h (by omega)
  | f + 1, g + 1, [], _, _ => rfl
  | f + 1, g + 1, c :: t, hf, hg => by
    simp only [List.length_cons] at hf hg
    have := escS_len t
    unfold urlF
    rw [urlF_more f g t (by omega) (by omega), urlF_more f g (escS t).2.1 (by omega) (by omega)]
def urlS (l : List Nat) : Bool × List Nat × List Nat × Bool := urlF (l.length + 1) l
theorem urlS_nil : urlS [] = (true, [], [], true) := rfl
theorem urlS_end (t : List Nat) : urlS (41 :: t) = (true, [], t, false) := by unfold urlS urlF; rw [if_pos rfl]
theorem urlS_ws_nil (c : Nat) (t : List Nat) (h : isWs c = true) (hs : spS t = []) : urlS (c :: t) = (true, [], [], true) := by
  have h0 : c ≠ 41 := by rintro rfl; exact absurd h (by decide)
  unfold urlS urlF; rw [if_neg h0, if_pos h, hs]
theorem urlS_ws_end (c : Nat) (t u : List Nat) (h : isWs c = true) (hs : spS t = 41 :: u) : urlS (c :: t) = (true, [], u, false) := by
  have h0 : c ≠ 41 := by rintro rfl; exact absurd h (by decide)
  unfold urlS urlF; rw [if_neg h0, if_pos h, hs]; dsimp only; rw [if_pos rfl]
theorem urlS_ws_bad (c : Nat) (t : List Nat) (d : Nat) (u : List Nat) (h : isWs c = true) (hs : spS t = d :: u) (hd : d ≠ 41) : urlS (c :: t) = (false, [], (badS (d :: u)).1, (badS (d :: u)).2) := by
  have h0 : c ≠ 41 := by rintro rfl; exact absurd h (by decide)
  unfold urlS urlF; rw [if_neg h0, if_pos h, hs]; dsimp only; rw [if_neg hd]
theorem urlS_spoils (c : Nat) (t : List Nat) (h0 : c ≠ 41) (h1 : isWs c = false) (h : spoils c t = true) : urlS (c :: t) = (false, [], (badS (c :: t)).1, (badS (c :: t)).2) := by
  unfold urlS urlF; rw [if_neg h0, if_neg (by rw [h1]; decide), if_pos h]
theorem urlS_esc (t : List Nat) (h : escOk t = true) : urlS (92 :: t) = ((urlS (escS t).2.1).1, (escS t).1 :: (urlS (escS t).2.1).2.1, (urlS (escS t).2.1).2.2.1, (escS t).2.2 || (urlS (escS t).2.1).2.2.2) := by
  have := escS_len t
  have hs : spoils 92 t = false := by unfold spoils; rw [h]; decide
  unfold urlS
  conv => lhs; unfold urlF
  rw [if_neg (by decide), if_neg (by decide), if_neg (by rw [hs]; decide), if_pos rfl, urlF_more _ ((escS t).2.1.length + 1) (escS t).2.1 (by simp only [List.length_cons]; omega) (by omega)]
theorem urlS_plain (c : Nat) (t : List Nat) (h0 : c ≠ 41) (h1 : isWs c = false) (h : spoils c t = false) (h2 : c ≠ 92) : urlS (c :: t) = ((urlS t).1, c :: (urlS t).2.1, (urlS t).2.2.1, (urlS t).2.2.2) := by
  unfold urlS
  conv => lhs; unfold urlF
  rw [if_neg h0, if_neg (by rw [h1]; decide), if_neg (by rw [h]; decide), if_neg h2]; rfl

/-! ### names and what belongs to them -/
/-- Is it url, in letters of any size. -/
def isUrlC (l : List Nat) : Bool := match l with
  | [u, r, l] => (u == 117 || u == 85) && (r == 114 || r == 82) && (l == 108 || l == 76)
  | _ => false
/-- Neither begins nor ends with whitespace. -/
def trimC (l : List Nat) : Bool := match l with
  | [] => true
  | c :: t => !isWs c && !isWs ((c :: t).getLast (by simp))
/-- lexer.named, of an address: behind the bracket and the whitespace. -/
def addrS (short : Bool) (l : List Nat) : Tk × List Nat × Bool :=
  (⟨if (urlS l).1 = true then 37 else 3, 0, false, if (urlS l).1 = true then (urlS l).2.1 else []⟩, (urlS l).2.2.1, (urlS l).2.2.2 || !short || !trimC (if (urlS l).1 = true then (urlS l).2.1 else []))
/-- lexer.named. -/
def namedS (l : List Nat) : Tk × List Nat × Bool :=
  match (nameS l).2.1 with
  | [] => (⟨29, 0, false, (nameS l).1⟩, [], (nameS l).2.2)
  | c :: t =>
    if c ≠ 40 then (⟨29, 0, false, (nameS l).1⟩, c :: t, (nameS l).2.2)
    else if isUrlC (nameS l).1 = true ∧ cpAt (spS t) 0 ≠ 34 ∧ cpAt (spS t) 0 ≠ 39 then
      ((addrS (decide (blen l - blen (c :: t) = 3)) (spS t)).1, (addrS (decide (blen l - blen (c :: t) = 3)) (spS t)).2.1, (nameS l).2.2 || (addrS (decide (blen l - blen (c :: t) = 3)) (spS t)).2.2)
    else (⟨27, 0, false, (nameS l).1⟩, t, (nameS l).2.2)

/-! ### comments -/
/-- What follows the end of a comment. -/
def closeS : List Nat → Option (List Nat)
  | [] => none
  | c :: t => if c = 42 ∧ t.head? = some 47 then some t.tail else closeS t
theorem closeS_len : ∀ (l r : List Nat), closeS l = some r → r.length < l.length
  | [], _, h => by simp [closeS] at h
  | c :: t, r, h => by
    unfold closeS at h
    by_cases h1 : c = 42 ∧ t.head? = some 47
    · rw [if_pos h1] at h
      obtain rfl := Option.some.inj h
      simp only [List.length_cons, List.length_tail]; omega
    · rw [if_neg h1] at h
      have := closeS_len t r h
      simp only [List.length_cons]; omega
/-- lexer.comment: the comments (how many bytes are to come at their beginnings and ends), what is left, whether it is left open. -/
def commF : Nat → List Nat → List (Nat × Nat) × List Nat × Bool
  | 0, l => ([], l, false)
  | f + 1, l =>
    if cpAt l 0 = 47 ∧ cpAt l 1 = 42 then
      match closeS (l.drop 2) with
      | none => ([(blen l, 0)], [], true)
      | some r => ((blen l, blen r) :: (commF f r).1, (commF f r).2.1, (commF f r).2.2)
    else ([], l, false)
theorem two_len {l : List Nat} (h : cpAt l 0 = 47 ∧ cpAt l 1 = 42) : ∃ t, l = 47 :: 42 :: t := by
  obtain ⟨h0, h1⟩ := h
  match l with
  | [] => simp [cpAt_nil] at h0
  | [c] => rw [cpAt_succ_cons, cpAt_nil] at h1; omega
  | c :: d :: t =>
    rw [cpAt_zero_cons] at h0
    rw [cpAt_succ_cons, cpAt_zero_cons] at h1
    have h0' : c = 47 := by omega
    have h1' : d = 42 := by omega
    exact ⟨t, by rw [h0', h1']⟩
theorem commF_more : ∀ (f g : Nat) (l : List Nat), l.length < f → l.length < g → commF f l = commF g l
  | 0, _, _, h, _ => absurd h (by omega)
  | _ + 1, 0, _, _, h => absurd h (by omega)
  | f + 1, g + 1, l, hf, hg => by
    unfold commF
    by_cases h : cpAt l 0 = 47 ∧ cpAt l 1 = 42
    · rw [if_pos h, if_pos h]
      cases hc : closeS (l.drop 2) with
      | none => rfl
      | some r =>
        have := closeS_len _ _ hc
        rw [List.length_drop] at this
        dsimp only
        rw [commF_more f g r (by omega) (by omega)]
    · rw [if_neg h, if_neg h]
def commS (l : List Nat) : List (Nat × Nat) × List Nat × Bool := commF (l.length + 1) l
theorem commS_no (l : List Nat) (h : ¬ (cpAt l 0 = 47 ∧ cpAt l 1 = 42)) : commS l = ([], l, false) := by unfold commS commF; rw [if_neg h]
theorem commS_open (t : List Nat) (h : closeS t = none) : commS (47 :: 42 :: t) = ([(blen (47 :: 42 :: t), 0)], [], true) := by
  unfold commS commF; rw [if_pos ⟨rfl, rfl⟩]; show (match closeS t with | none => _ | some r => _) = _; rw [h]
theorem commS_some (t r : List Nat) (h : closeS t = some r) : commS (47 :: 42 :: t) = ((blen (47 :: 42 :: t), blen r) :: (commS r).1, (commS r).2.1, (commS r).2.2) := by
  have := closeS_len _ _ h
  unfold commS
  conv => lhs; unfold commF
  rw [if_pos ⟨rfl, rfl⟩]; show (match closeS t with | none => _ | some r => _) = _; rw [h]
  dsimp only
  rw [commF_more _ (r.length + 1) r (by simp only [List.length_cons]; omega) (by omega)]

/-! ### the next token, all tokens -/
/-- The kind of a sign. -/
def signK (c : Nat) : Nat :=
  if c = 123 then 31 else if c = 125 then 6 else if c = 91 then 32 else if c = 93 then 7 else if c = 40 then 33 else if c = 41 then 8
  else if c = 58 then 9 else if c = 59 then 35 else if c = 44 then 10 else if c = 38 then 12 else if c = 42 then 13 else if c = 124 then 14
  else if c = 94 then 15 else if c = 36 then 16 else if c = 46 then 17 else if c = 61 then 18 else if c = 33 then 19 else if c = 62 then 20
  else if c = 60 then 21 else if c = 45 then 22 else if c = 43 then 23 else if c = 47 then 24 else if c = 126 then 25 else 11
/-- Do three code points begin a number. -/
def countZ (a b c : Int) : Bool := if a = 43 ∨ a = 45 then dgB b || (decide (b = 46) && dgB c) else dgB a || (decide (a = 46) && dgB b)
/-- lexer.next, ahead of c :: t. -/
def nextS (c : Nat) (t : List Nat) : Tk × List Nat × Bool :=
  if isWs c = true then (⟨38, 0, false, []⟩, spS t, false)
  else if c = 34 ∨ c = 39 then (⟨if (quotS c t).1 = true then 36 else 2, 0, false, if (quotS c t).1 = true then (quotS c t).2.1 else []⟩, (quotS c t).2.2.1, (quotS c t).2.2.2)
  else if c = 35 ∧ (scB (cpAt t 0) || escZ (cpAt t 0) (cpAt t 1)) = true then (⟨28, 0, identZ (cpAt t 0) (cpAt t 1) (cpAt t 2), (nameS t).1⟩, (nameS t).2.1, (nameS t).2.2)
  else if countZ (c : Int) (cpAt t 0) (cpAt t 1) = true then numericS (c :: t)
  else if c = 45 ∧ cpAt t 0 = 45 ∧ cpAt t 1 = 62 then (⟨4, 0, false, []⟩, t.drop 2, false)
  else if identZ (c : Int) (cpAt t 0) (cpAt t 1) = true then namedS (c :: t)
  else if c = 60 ∧ cpAt t 0 = 33 ∧ cpAt t 1 = 45 ∧ cpAt t 2 = 45 then (⟨5, 0, false, []⟩, t.drop 3, false)
  else if c = 64 ∧ identZ (cpAt t 0) (cpAt t 1) (cpAt t 2) = true then (⟨1, 0, false, (nameS t).1⟩, (nameS t).2.1, (nameS t).2.2)
  else (⟨signK c, 0, false, []⟩, t, false)
/-- A token and its place: how many bytes are to come at its beginning and its end. -/
structure Tp where
  tk : Tk
  b : Nat
  e : Nat
/-- spec.Tokens: the tokens o, the comments cs, whether it is left open. -/
def TokR : List Tp → List Nat → List (Nat × Nat) → Bool → Prop
  | [], l, cs, op => (commS l).2.1 = [] ∧ cs = (commS l).1 ∧ op = (commS l).2.2
  | tp :: o, l, cs, op => ∃ c t cs' op', (commS l).2.1 = c :: t ∧ tp = ⟨(nextS c t).1, blen (c :: t), blen (nextS c t).2.1⟩ ∧ TokR o (nextS c t).2.1 cs' op' ∧ cs = (commS l).1 ++ cs' ∧ op = ((commS l).2.2 || ((nextS c t).2.2 || op'))
end Go.Proofs.YtmgkccnfhkcncaaGreatDoor

namespace Go.Proofs.YtmgkccnfhkcncaaGreatDoor
open Go

/-- One byte of url. -/
def isU (b : UInt8) : Bool := (b.toNat : Int) == 117 || (b.toNat : Int) == 85
def isR (b : UInt8) : Bool := (b.toNat : Int) == 114 || (b.toNat : Int) == 82
def isL (b : UInt8) : Bool := (b.toNat : Int) == 108 || (b.toNat : Int) == 76
def isUrlB (l : List UInt8) : Bool := match l with
  | [u, r, l] => isU u && isR r && isL l
  | _ => false
/-- A list of bytes that are three. -/
theorem three {l : List UInt8} (h : l.length = 3) : ∃ a b c, l = [a, b, c] := by
  match l, h with
  | [a, b, c], _ => exact ⟨a, b, c, rfl⟩

theorem toUInt8_toNat {c : Nat} (h : c < 256) : c.toUInt8.toNat = c := by simp [Nat.toUInt8, UInt8.toNat_ofNat']; omega
theorem ofNat_toNat (b : UInt8) : b.toNat.toUInt8 = b := by simp
theorem isUrl_encs (l : List Nat) (h : ∀ c ∈ l, Cp c) : isUrlB (encs l) = isUrlC l := by
  rw [Bool.eq_iff_iff]
  constructor
  · intro hb
    unfold isUrlB at hb
    split at hb
    · rename_i a b c heq
      simp only [Bool.and_eq_true, isU, isR, isL, Bool.or_eq_true, beq_iff_eq] at hb
      have e1 : encs l = encs [a.toNat, b.toNat, c.toNat] := by
        rw [heq, encs_cons, encs_cons, encs_cons, enc_ascii _ (by omega), enc_ascii _ (by omega), enc_ascii _ (by omega), ofNat_toNat, ofNat_toNat, ofNat_toNat]; rfl
      have hl := encs_inj _ _ h (by intro x hx; simp at hx; unfold Cp; rcases hx with rfl | rfl | rfl <;> omega) e1
      rw [hl]
      unfold isUrlC
      simp only [Bool.and_eq_true, Bool.or_eq_true, beq_iff_eq]
      omega
    · exact absurd hb (by decide)
  · intro hb
    unfold isUrlC at hb
    split at hb
    · rename_i a b c
      simp only [Bool.and_eq_true, Bool.or_eq_true, beq_iff_eq] at hb
      rw [encs_cons, encs_cons, encs_cons, enc_ascii _ (by omega), enc_ascii _ (by omega), enc_ascii _ (by omega)]
      show (isU a.toUInt8 && isR b.toUInt8 && isL c.toUInt8) = true
      unfold isU isR isL
      rw [toUInt8_toNat (by omega), toUInt8_toNat (by omega), toUInt8_toNat (by omega)]
      simp only [Bool.and_eq_true, Bool.or_eq_true, beq_iff_eq]
      omega
    · exact absurd hb (by decide)
end Go.Proofs.YtmgkccnfhkcncaaGreatDoor

namespace Go.Proofs.YtmgkccnfhkcncaaGreatDoor
open Go

/-- The code point at a place; -1 behind the text. -/
def hdB (r : List UInt8) : Int := if r = [] then -1 else ((Lib.decodeL r).1 : Int)
/-- What follows it. -/
def tlB (r : List UInt8) : List UInt8 := r.drop (Lib.decodeL r).2
theorem hdB_nil : hdB [] = -1 := rfl
theorem tlB_nil : tlB [] = [] := by unfold tlB; simp
theorem hdB_cons {r : List UInt8} (h : r ≠ []) : hdB r = ((Lib.decodeL r).1 : Int) := if_neg h
theorem hdB_encs (l : List Nat) (h : ∀ c ∈ l, Cp c) : hdB (encs l) = cpAt l 0 := by
  cases l with
  | nil => rfl
  | cons c t => rw [hdB_cons (encs_cons_ne c t), dec_encs c (h c (by simp))]; rfl
theorem tlB_encs (l : List Nat) (h : ∀ c ∈ l, Cp c) : tlB (encs l) = encs l.tail := by
  cases l with
  | nil => exact tlB_nil
  | cons c t => unfold tlB; rw [dec_encs c (h c (by simp))]; exact drop_encs c t
theorem tlB_len {r : List UInt8} (h : r ≠ []) : (tlB r).length < r.length := by
  have h1 := Lib.decodeL_width r
  have h2 := List.length_pos_iff.2 h
  unfold tlB; rw [List.length_drop]; omega
theorem tlB_le (r : List UInt8) : (tlB r).length ≤ r.length := by unfold tlB; rw [List.length_drop]; omega
/-- How many bytes the next code point has. -/
def widB (r : List UInt8) : Nat := (decG r).2
theorem widB_le (r : List UInt8) : widB r ≤ r.length := by
  unfold widB decG
  by_cases h : r = []
  · rw [if_pos h]; exact Nat.zero_le _
  · rw [if_neg h]; exact Lib.decodeL_le r h
theorem widB_pos {r : List UInt8} (h : r ≠ []) : 1 ≤ widB r := by
  unfold widB decG
  rw [if_neg h]; exact Lib.decodeL_width r
theorem tlB_drop (r : List UInt8) : tlB r = r.drop (widB r) := by
  unfold widB decG tlB
  by_cases h : r = []
  · subst h; simp
  · rw [if_neg h]
theorem hdB_range (r : List UInt8) : -1 ≤ hdB r ∧ hdB r ≤ 1114111 := by
  have := Lib.decodeL_rune r
  unfold hdB
  split <;> omega
theorem hdB_end {r : List UInt8} (h : hdB r = -1) : r = [] := by
  by_cases h2 : r = []
  · exact h2
  · rw [hdB_cons h2] at h; omega
theorem tlB_suf (r : List UInt8) : tlB r <:+ r := List.drop_suffix _ _
/-- What DecodeRuneInString says of what follows. -/
theorem decG_encs (l : List Nat) (h : ∀ c ∈ l, Cp c) : decG (encs l) = match l with | [] => (65533, 0) | c :: _ => (c, (enc c).length) := by
  cases l with
  | nil => rfl
  | cons c t => unfold decG; rw [if_neg (encs_cons_ne c t), dec_encs c (h c (by simp))]
/-- Is it a valid escape. -/
def vescB (r : List UInt8) : Bool := decide (hdB r = 92) && !nlB ((decG (tlB r)).1 : Int)
theorem vescB_nil : vescB [] = false := rfl
theorem vescB_encs (c : Nat) (t : List Nat) (h : ∀ d ∈ c :: t, Cp d) : vescB (encs (c :: t)) = decide (c = 92 ∧ escOk t = true) := by
  unfold vescB
  rw [hdB_encs _ h, tlB_encs _ h, cpAt_zero_cons, List.tail_cons, ← escZ_ok]
  unfold escZ
  congr 1
  cases t with
  | nil => rfl
  | cons d u => rw [decG_encs _ (fun e he => h e (by simp [he])), cpAt_zero_cons]
/-- Would an identifier begin. -/
def wouldB (r : List UInt8) : Bool :=
  if nsB (hdB r) = true then true
  else if hdB r = 45 then
    (if (decG (tlB r)).1 = 65533 ∧ (decG (tlB r)).2 ≤ 1 then false
     else nsB ((decG (tlB r)).1 : Int) || decide ((decG (tlB r)).1 = 45) || (decide ((decG (tlB r)).1 = 92) && !nlB ((decG ((tlB r).drop (decG (tlB r)).2)).1 : Int)))
  else vescB r
theorem wouldB_encs (l : List Nat) (h : ∀ d ∈ l, Cp d) : wouldB (encs l) = identZ (cpAt l 0) (cpAt l 1) (cpAt l 2) := by
  cases l with
  | nil => rfl
  | cons c t =>
    have hc := h c (by simp)
    have ht : ∀ d ∈ t, Cp d := fun d hd => h d (by simp [hd])
    unfold wouldB
    rw [hdB_encs _ h, tlB_encs _ h, cpAt_zero_cons, List.tail_cons, cpAt_succ_cons, cpAt_succ_cons, vescB_encs c t h, ns_nat c (by unfold Cp at hc; omega)]
    unfold identZ
    by_cases h45 : c = 45
    · subst h45
      rw [if_neg (by decide), if_pos (show ((45 : Nat) : Int) = 45 from rfl), if_pos (show ((45 : Nat) : Int) = 45 from rfl)]
      cases t with
      | nil => rfl
      | cons d u =>
        have hd := ht d (by simp)
        rw [decG_encs _ ht, cpAt_zero_cons, cpAt_succ_cons]
        dsimp only
        have hw : ¬ (d = 65533 ∧ (enc d).length ≤ 1) := by
          rintro ⟨rfl, h2⟩
          have : (enc 65533).length = 3 := by rfl
          omega
        rw [if_neg hw, drop_encs, ns_ss (by unfold Cp at hd; omega)]
        have e1 : decide (d = 45) = decide ((d : Int) = 45) := by rw [Bool.eq_iff_iff, decide_eq_true_iff, decide_eq_true_iff]; omega
        rw [e1]
        congr 1
        unfold escZ
        have e2 : decide (d = 92) = decide ((d : Int) = 92) := by rw [Bool.eq_iff_iff, decide_eq_true_iff, decide_eq_true_iff]; omega
        rw [e2]
        congr 1
        cases u with
        | nil => rfl
        | cons e v => rw [decG_encs _ (fun x hx => ht x (by simp [hx])), cpAt_zero_cons]
    · rw [if_neg (show ¬ ((c : Int) = 45) by omega), if_neg (show ¬ ((c : Int) = 45) by omega), escZ_ok, ss_nat]
      cases starts c with
      | true => rfl
      | false => rfl
/-- consumeName ahead of the first escape. -/
def contB (b : UInt8) : Bool := ncB (b.toNat : Int)
def fastB (r : List UInt8) : List UInt8 := if ncB (hdB r) = true then (tlB r).dropWhile contB else r
theorem dropWhile_len {α : Type} (p : α → Bool) : ∀ l : List α, (l.dropWhile p).length ≤ l.length
  | [] => Nat.le_refl _
  | a :: t => by
    rw [List.dropWhile_cons]
    split
    · have := dropWhile_len p t; simp only [List.length_cons]; omega
    · exact Nat.le_refl _
theorem fastB_le (r : List UInt8) : (fastB r).length ≤ r.length := by
  unfold fastB
  split
  · have := dropWhile_len contB (tlB r); have := tlB_le r; omega
  · exact Nat.le_refl _
/-- consumeEscape: its value, what is left. -/
def escV (r : List UInt8) : Nat × List UInt8 :=
  if hdB (tlB r) = -1 then (65533, [])
  else match hexv (Lib.decodeL (tlB r)).1 with
    | some h => (fix (hexRunB 5 h (tlB (tlB r))).1, dropWsB (hexRunB 5 h (tlB (tlB r))).2)
    | none => ((Lib.decodeL (tlB r)).1, tlB (tlB r))
theorem escV_le (r : List UInt8) : (escV r).2.length ≤ (tlB r).length := by
  unfold escV
  split
  · simp
  · split
    · rename_i h _
      have := hexRunB_len 5 h (tlB (tlB r))
      have := dropWsB_len (hexRunB 5 h (tlB (tlB r))).2
      have := tlB_le (tlB r)
      dsimp only; omega
    · exact tlB_le _
/-- The loop of consumeName: what is written, what is left. -/
def nloopF : Nat → List UInt8 → List UInt8 × List UInt8
  | 0, r => ([], r)
  | f + 1, r =>
    if ncB (hdB r) = true then (Lib.encodeRune (hdB r) ++ (nloopF f (tlB r)).1, (nloopF f (tlB r)).2)
    else if vescB r = true then (Lib.encodeRune ((escV r).1 : Int) ++ (nloopF f (escV r).2).1, (nloopF f (escV r).2).2)
    else ([], r)
theorem nc_ne {r : List UInt8} (h : ncB (hdB r) = true) : r ≠ [] := by rintro rfl; exact absurd h (by decide)
theorem esc_ne {r : List UInt8} (h : vescB r = true) : r ≠ [] := by rintro rfl; exact absurd h (by decide)
theorem nloopF_more : ∀ (f g : Nat) (r : List UInt8), r.length < f → r.length < g → nloopF f r = nloopF g r
  | 0, _, _, h, _ => absurd h (by omega)
  | _ + 1, 0, _, _, h => absurd h (by omega)
  | f + 1, g + 1, r, hf, hg => by
    unfold nloopF
    by_cases h1 : ncB (hdB r) = true
    · have := tlB_len (nc_ne h1)
      rw [if_pos h1, if_pos h1, nloopF_more f g (tlB r) (by omega) (by omega)]
    · rw [if_neg h1, if_neg h1]
      by_cases h2 : vescB r = true
      · have := tlB_len (esc_ne h2)
        have := escV_le r
        rw [if_pos h2, if_pos h2, nloopF_more f g (escV r).2 (by omega) (by omega)]
      · rw [if_neg h2, if_neg h2]
def nloopB (r : List UInt8) : List UInt8 × List UInt8 := nloopF (r.length + 1) r
theorem nloopB_conts {r : List UInt8} (h : ncB (hdB r) = true) : nloopB r = (Lib.encodeRune (hdB r) ++ (nloopB (tlB r)).1, (nloopB (tlB r)).2) := by
  have := tlB_len (nc_ne h)
  unfold nloopB
  conv => lhs; unfold nloopF
  rw [if_pos h, nloopF_more _ ((tlB r).length + 1) (tlB r) (by omega) (by omega)]
theorem nloopB_esc {r : List UInt8} (h : ¬ ncB (hdB r) = true) (h2 : vescB r = true) : nloopB r = (Lib.encodeRune ((escV r).1 : Int) ++ (nloopB (escV r).2).1, (nloopB (escV r).2).2) := by
  have := tlB_len (esc_ne h2)
  have := escV_le r
  unfold nloopB
  conv => lhs; unfold nloopF
  rw [if_neg h, if_pos h2, nloopF_more _ ((escV r).2.length + 1) (escV r).2 (by omega) (by omega)]
theorem nloopB_stop {r : List UInt8} (h : ¬ ncB (hdB r) = true) (h2 : ¬ vescB r = true) : nloopB r = ([], r) := by
  unfold nloopB nloopF
  rw [if_neg h, if_neg h2]
end Go.Proofs.YtmgkccnfhkcncaaGreatDoor

namespace Go.Proofs.YtmgkccnfhkcncaaGreatDoor
open Go

/-! ### a loop over a state that grows shorter -/
def loopF {σ α : Type} (st : σ → α ⊕ σ) (d : α) : Nat → σ → α
  | 0, _ => d
  | f + 1, x => match st x with
    | .inl a => a
    | .inr y => loopF st d f y
theorem loopF_more {σ α : Type} (st : σ → α ⊕ σ) (d : α) (m : σ → Nat) (hm : ∀ x y, st x = .inr y → m y < m x) : ∀ (f g : Nat) (x : σ), m x < f → m x < g → loopF st d f x = loopF st d g x
  | 0, _, _, h, _ => absurd h (by omega)
  | _ + 1, 0, _, _, h => absurd h (by omega)
  | f + 1, g + 1, x, hf, hg => by
    unfold loopF
    cases h : st x with
    | inl a => rfl
    | inr y =>
      have := hm x y h
      exact loopF_more st d m hm f g y (by omega) (by omega)
/-- The loop over bytes. -/
def loopB {α : Type} (st : List UInt8 → α ⊕ List UInt8) (d : α) (r : List UInt8) : α := loopF st d (r.length + 1) r
theorem loopB_end {α : Type} {st : List UInt8 → α ⊕ List UInt8} {d : α} {r : List UInt8} {a : α} (h : st r = .inl a) : loopB st d r = a := by
  unfold loopB loopF; rw [h]
theorem loopB_go {α : Type} {st : List UInt8 → α ⊕ List UInt8} {d : α} {r y : List UInt8} (hm : ∀ x y, st x = .inr y → y.length < x.length) (h : st r = .inr y) : loopB st d r = loopB st d y := by
  have := hm r y h
  unfold loopB
  conv => lhs; unfold loopF
  rw [h]
  exact loopF_more st d List.length hm _ _ y (by omega) (by omega)
/-- What a loop ends with has a property that its ends have. -/
theorem loopB_ind {α : Type} {st : List UInt8 → α ⊕ List UInt8} {d : α} (hm : ∀ x y, st x = .inr y → y.length < x.length) (Q : List UInt8 → α → Prop)
    (he : ∀ x a, st x = .inl a → Q x a) (hg : ∀ x y a, st x = .inr y → Q y a → Q x a) : ∀ (n : Nat) (r : List UInt8), r.length ≤ n → Q r (loopB st d r)
  | 0, r, h => by
    cases hs : st r with
    | inl a => rw [loopB_end hs]; exact he r a hs
    | inr y => have := hm r y hs; omega
  | n + 1, r, h => by
    cases hs : st r with
    | inl a => rw [loopB_end hs]; exact he r a hs
    | inr y =>
      have := hm r y hs
      rw [loopB_go hm hs]
      exact hg r y _ hs (loopB_ind hm Q he hg n y (by omega))

/-! ### small steps -/
theorem decodeN_high (n b0 b1 b2 b3 : Nat) (h : 128 ≤ b0) : 128 ≤ (Lib.decodeN n b0 b1 b2 b3).1 := by
  rcases Lib.decodeN_shape n b0 b1 b2 b3 with ⟨h1, e⟩ | ⟨_, _, _, h1, e⟩ | ⟨_, _, _, _, h1, _, e⟩ | ⟨_, _, _, _, _, h1, _, e⟩ | e <;> rw [e] <;> dsimp only <;> omega
theorem hd_ne {r : List UInt8} {c : Int} (h : hdB r = c) (hc : c ≠ -1) : r ≠ [] := by rintro rfl; exact hc h.symm
theorem tl_lt {r : List UInt8} {c : Int} (h : hdB r = c) (hc : c ≠ -1) : (tlB r).length < r.length := tlB_len (hd_ne h hc)
theorem decodeN_w4 (n b0 b1 b2 b3 : Nat) : (Lib.decodeN n b0 b1 b2 b3).2 ≤ 4 := by
  rcases Lib.decodeN_shape n b0 b1 b2 b3 with ⟨h1, e⟩ | ⟨_, _, _, h1, e⟩ | ⟨_, _, _, _, h1, _, e⟩ | ⟨_, _, _, _, _, h1, _, e⟩ | e <;> rw [e] <;> dsimp only <;> omega
/-- An ASCII byte is its own code point. -/
theorem hdB_ascii {x : UInt8} {t : List UInt8} (h : x.toNat < 128) : hdB (x :: t) = (x.toNat : Int) := by
  rw [hdB_cons (by simp), Lib.decodeL_ascii x t h]
theorem tlB_ascii {x : UInt8} {t : List UInt8} (h : x.toNat < 128) : tlB (x :: t) = t := by
  unfold tlB; rw [Lib.decodeL_ascii x t h]; rfl
theorem widB_ascii {x : UInt8} {t : List UInt8} (h : x.toNat < 128) : widB (x :: t) = 1 := by
  unfold widB decG; rw [if_neg (by simp), Lib.decodeL_ascii x t h]
/-- A code point below 128 is one byte. -/
theorem hdB_high {x : UInt8} {t : List UInt8} (h : 128 ≤ x.toNat) : 128 ≤ hdB (x :: t) := by
  rw [hdB_cons (by simp), Lib.decodeL_N]
  have hx : ((x :: t).getD 0 0).toNat = x.toNat := rfl
  rw [hx]
  have := decodeN_high (x :: t).length x.toNat (((x :: t).getD 1 0).toNat) (((x :: t).getD 2 0).toNat) (((x :: t).getD 3 0).toNat) h
  omega
theorem hdB_low {r : List UInt8} {c : Nat} (h : hdB r = (c : Int)) (hc : c < 128) : ∃ x t, r = x :: t ∧ x.toNat = c ∧ tlB r = t ∧ widB r = 1 := by
  match r, h with
  | [], h => rw [hdB_nil] at h; omega
  | x :: t, h =>
    by_cases hx : x.toNat < 128
    · rw [hdB_ascii hx] at h
      exact ⟨x, t, rfl, by omega, tlB_ascii hx, widB_ascii hx⟩
    · have := hdB_high (t := t) (by omega : 128 ≤ x.toNat)
      omega

/-! ### numbers -/
def digU (x : UInt8) : Bool := decide (48 ≤ x.toNat ∧ x.toNat ≤ 57)
/-- Is the byte at a place a digit. -/
def digAt (r : List UInt8) (i : Nat) : Bool := match r[i]? with
  | some x => digU x
  | none => false
def pmAt (r : List UInt8) (i : Nat) : Bool := match r[i]? with
  | some x => decide (x.toNat = 43 ∨ x.toNat = 45)
  | none => false
def dotAt (r : List UInt8) (i : Nat) : Bool := match r[i]? with
  | some x => decide (x.toNat = 46)
  | none => false
/-- wouldStartNumber. -/
def cntB (r : List UInt8) : Bool :=
  if dgB (hdB r) = true then true
  else if hdB r = 46 then digAt (tlB r) 0
  else if hdB r = 43 ∨ hdB r = 45 then digAt (tlB r) 0 || (dotAt (tlB r) 0 && digAt (tlB r) 1)
  else false
def dgsB (r : List UInt8) : List UInt8 := r.dropWhile digU
theorem digU_hd {x : UInt8} {t : List UInt8} : digU x = dgB (hdB (x :: t)) := by
  unfold digU dgB
  by_cases hx : x.toNat < 128
  · rw [hdB_ascii hx]; rw [Bool.eq_iff_iff, decide_eq_true_iff, decide_eq_true_iff]; omega
  · have := hdB_high (t := t) (by omega : 128 ≤ x.toNat)
    rw [Bool.eq_iff_iff, decide_eq_true_iff, decide_eq_true_iff]; omega
theorem dgsB_go {r : List UInt8} (h : dgB (hdB r) = true) : dgsB r = dgsB (tlB r) := by
  have h' : 48 ≤ hdB r ∧ hdB r ≤ 57 := of_decide_eq_true h
  obtain ⟨c, hc⟩ : ∃ c : Nat, hdB r = (c : Int) := ⟨(hdB r).toNat, by omega⟩
  obtain ⟨x, t, rfl, hx, ht, _⟩ := hdB_low hc (by omega)
  rw [ht]
  unfold dgsB
  rw [List.dropWhile_cons, if_pos (by rw [digU_hd (t := t)]; exact h)]
theorem dgsB_stop {r : List UInt8} (h : dgB (hdB r) = false) : dgsB r = r := by
  match r, h with
  | [], _ => rfl
  | x :: t, h =>
    unfold dgsB
    rw [List.dropWhile_cons, if_neg (by rw [digU_hd (t := t), h]; decide)]
theorem dgsB_le (r : List UInt8) : (dgsB r).length ≤ r.length := dropWhile_len _ _
def signB (r : List UInt8) : List UInt8 := if hdB r = 43 ∨ hdB r = 45 then tlB r else r
def pointB (r : List UInt8) : List UInt8 := if hdB r = 46 then dgsB (tlB r) else r
/-- Is it an exponent, behind its letter. -/
def expLook (t : List UInt8) : Bool := if pmAt t 0 = true ∧ 1 < t.length then digAt t 1 else digAt t 0
def expB (r : List UInt8) : List UInt8 := if (hdB r = 101 ∨ hdB r = 69) ∧ expLook (tlB r) = true then dgsB (signB (tlB r)) else r
def numB (r : List UInt8) : List UInt8 := expB (pointB (dgsB (signB r)))

/-! ### names -/
/-- consumeName: what is left. -/
def nameR (r : List UInt8) : List UInt8 := if vescB (fastB r) = true then (nloopB (escV (fastB r)).2).2 else fastB r
/-- What it writes. -/
def nameW (r : List UInt8) : List UInt8 := r.take (r.length - (fastB r).length) ++ (if vescB (fastB r) = true then Lib.encodeRune ((escV (fastB r)).1 : Int) ++ (nloopB (escV (fastB r)).2).1 else [])
/-- consumeNumeric: its kind, how many bytes are ahead of its unit, what is left. -/
def numericB (r : List UInt8) : Nat × Nat × List UInt8 :=
  if wouldB (numB r) = true then (26, r.length - (numB r).length, nameR (numB r))
  else if hdB (numB r) = 37 then (34, 0, tlB (numB r))
  else (30, 0, numB r)

/-! ### strings -/
def strStep (q : Int) (r : List UInt8) : (Bool × List UInt8) ⊕ List UInt8 :=
  if hdB r = 92 then (if hdB (tlB r) = 13 then .inr (if hdB (tlB (tlB r)) = 10 then tlB (tlB (tlB r)) else tlB (tlB r)) else .inr (tlB (tlB r)))
  else if hdB r = -1 ∨ nlB (hdB r) = true then .inl (false, r)
  else if hdB r = q then .inl (true, tlB r)
  else .inr (tlB r)
theorem strStep_lt (q : Int) (x y : List UInt8) (h : strStep q x = .inr y) : y.length < x.length := by
  unfold strStep at h
  by_cases h1 : hdB x = 92
  · have h0 := tl_lt h1 (by decide)
    have h2 := tlB_le (tlB x)
    have h3 := tlB_le (tlB (tlB x))
    rw [if_pos h1] at h
    split at h
    · obtain rfl := Sum.inr.inj h
      split <;> omega
    · obtain rfl := Sum.inr.inj h
      omega
  · rw [if_neg h1] at h
    by_cases h2 : hdB x = -1 ∨ nlB (hdB x) = true
    · rw [if_pos h2] at h; cases h
    · rw [if_neg h2] at h
      split at h
      · cases h
      · obtain rfl := Sum.inr.inj h
        exact tl_lt rfl (fun e => h2 (.inl e))
/-- consumeString behind its quote: does it end; what is left. -/
def strB (q : Int) (r : List UInt8) : Bool × List UInt8 := loopB (strStep q) (false, []) r

/-! ### addresses -/
def spcB (r : List UInt8) : List UInt8 := r.dropWhile fun x => spB (x.toNat : Int)
theorem spU_hd {x : UInt8} {t : List UInt8} : spB (x.toNat : Int) = spB (hdB (x :: t)) := by
  unfold spB
  by_cases hx : x.toNat < 128
  · rw [hdB_ascii hx]
  · have := hdB_high (t := t) (by omega : 128 ≤ x.toNat)
    rw [Bool.eq_iff_iff, decide_eq_true_iff, decide_eq_true_iff]; omega
theorem spcB_go {r : List UInt8} (h : spB (hdB r) = true) : spcB r = spcB (tlB r) := by
  have h' : hdB r = 10 ∨ hdB r = 13 ∨ hdB r = 12 ∨ hdB r = 9 ∨ hdB r = 32 := of_decide_eq_true h
  obtain ⟨c, hc⟩ : ∃ c : Nat, hdB r = (c : Int) := ⟨(hdB r).toNat, by omega⟩
  obtain ⟨x, t, rfl, hx, ht, _⟩ := hdB_low hc (by omega)
  rw [ht]
  unfold spcB
  rw [List.dropWhile_cons, if_pos (by rw [spU_hd (t := t)]; exact h)]
theorem spcB_stop {r : List UInt8} (h : spB (hdB r) = false) : spcB r = r := by
  match r, h with
  | [], _ => rfl
  | x :: t, h =>
    unfold spcB
    rw [List.dropWhile_cons, if_neg (by rw [spU_hd (t := t), h]; decide)]
theorem spcB_le (r : List UInt8) : (spcB r).length ≤ r.length := dropWhile_len _ _
/-- consumeURL: how it ends: its kind, whether it told something, what is left; none: the remnants of a bad address follow. -/
def urlStep (r : List UInt8) : (Option (Bool × List UInt8) × List UInt8) ⊕ List UInt8 :=
  if hdB r = 41 then .inl (some (false, tlB r), [])
  else if hdB r = -1 then .inl (some (true, r), [])
  else if spB (hdB r) = true then
    (if hdB (spcB (tlB r)) = 41 then .inl (some (false, tlB (spcB (tlB r))), [])
     else if hdB (spcB (tlB r)) = -1 then .inl (some (true, spcB (tlB r)), [])
     else .inl (none, spcB (tlB r)))
  else if hdB r = 34 ∨ hdB r = 39 ∨ hdB r = 40 then .inl (none, r)
  else if hdB r = 92 then (if vescB r = true then .inr (escV r).2 else .inl (none, r))
  else if unpB (hdB r) = true then .inl (none, r)
  else .inr (tlB r)
theorem urlStep_lt (x y : List UInt8) (h : urlStep x = .inr y) : y.length < x.length := by
  unfold urlStep at h
  by_cases h1 : hdB x = 41
  · rw [if_pos h1] at h; cases h
  rw [if_neg h1] at h
  by_cases h2 : hdB x = -1
  · rw [if_pos h2] at h; cases h
  rw [if_neg h2] at h
  have h0 := tl_lt (r := x) rfl h2
  by_cases h3 : spB (hdB x) = true
  · rw [if_pos h3] at h
    split at h
    · cases h
    · split at h <;> cases h
  rw [if_neg h3] at h
  by_cases h4 : hdB x = 34 ∨ hdB x = 39 ∨ hdB x = 40
  · rw [if_pos h4] at h; cases h
  rw [if_neg h4] at h
  by_cases h5 : hdB x = 92
  · rw [if_pos h5] at h
    split at h
    · obtain rfl := Sum.inr.inj h
      have := escV_le x
      omega
    · cases h
  rw [if_neg h5] at h
  split at h
  · cases h
  · obtain rfl := Sum.inr.inj h
    exact h0
def urlB (r : List UInt8) : Option (Bool × List UInt8) × List UInt8 := loopB urlStep (none, []) r
/-- The remnants of a bad address. -/
def badStep (r : List UInt8) : List UInt8 ⊕ List UInt8 :=
  if hdB r = 41 ∨ hdB r = -1 then .inl (tlB r)
  else if vescB r = true then .inr (tlB (escV r).2)
  else .inr (tlB r)
theorem badStep_lt (x y : List UInt8) (h : badStep x = .inr y) : y.length < x.length := by
  unfold badStep at h
  by_cases h1 : hdB x = 41 ∨ hdB x = -1
  · rw [if_pos h1] at h; cases h
  rw [if_neg h1] at h
  have h0 := tl_lt (r := x) rfl (fun e => h1 (.inr e))
  split at h
  · obtain rfl := Sum.inr.inj h
    have := escV_le x
    have := tlB_le (escV x).2
    omega
  · obtain rfl := Sum.inr.inj h
    exact h0
def badB (r : List UInt8) : List UInt8 := loopB badStep [] r
/-- consumeURL: its kind, whether it told something, what is left. -/
def addrB (r : List UInt8) : Nat × Bool × List UInt8 := match urlB r with
  | (some (t, x), _) => (37, t, x)
  | (none, x) => (3, true, badB x)
/-- consumeIdentLike: its kind, whether it told something, what is left. -/
def identB (r : List UInt8) : Nat × Bool × List UInt8 :=
  if hdB (nameR r) = 40 then
    (if isUrlB (nameW r) = true ∧ hdB (spcB (tlB (nameR r))) ≠ 34 ∧ hdB (spcB (tlB (nameR r))) ≠ 39 then addrB (spcB (tlB (nameR r)))
     else (27, false, tlB (nameR r)))
  else (29, false, nameR r)
end Go.Proofs.YtmgkccnfhkcncaaGreatDoor
