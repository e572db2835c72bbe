/-
  Plain Lean, no program: the reference's lexer on code points: tokens, comments, whether it is left open.
-/
import Derived.Test.YtmgkccnfhkcncaaGreatDoorIdentZ
namespace Go.Proofs.YtmgkccnfhkcncaaGreatDoor
open Go

/-- A token: its kind, where its unit begins, whether it is an ID, its text. -/
structure Tk where
  kind : Nat
  unit : Nat
  id : Bool
  text : List Nat

theorem spS_len (l : List Nat) : (spS l).length ≤ l.length := by
  induction l with
  | nil => exact Nat.le_refl _
  | cons c t ih =>
    rw [spS_cons]
    by_cases h : isWs c = true
    · rw [if_pos h]; simp only [List.length_cons]; omega
    · rw [if_neg h]; exact Nat.le_refl _
theorem dgS_len (l : List Nat) : (dgS l).length ≤ l.length := by
  induction l with
  | nil => exact Nat.le_refl _
  | cons c t ih =>
    rw [dgS_cons]
    by_cases h : isDg c = true
    · rw [if_pos h]; simp only [List.length_cons]; omega
    · rw [if_neg h]; exact Nat.le_refl _

/-! ### quoted -/
/-- lexer.quoted behind the quote: is it a string; its text, what is left, whether it is left open. -/
def quotF (q : Nat) : Nat → List Nat → Bool × List Nat × List Nat × Bool
  | 0, l => (true, [], l, true)
  | _ + 1, [] => (true, [], [], true)
  | f + 1, c :: t =>
    if c = q then (true, [], t, false)
    else if isNl c = true then (false, [], c :: t, false)
    else if c = 92 then match t with
      | [] => (true, [], [], true)
      | d :: u =>
        if isNl d = true then quotF q f (nlS (d :: u))
        else ((quotF q f (escS (d :: u)).2.1).1, (escS (d :: u)).1 :: (quotF q f (escS (d :: u)).2.1).2.1, (quotF q f (escS (d :: u)).2.1).2.2.1, (escS (d :: u)).2.2 || (quotF q f (escS (d :: u)).2.1).2.2.2)
    else ((quotF q f t).1, c :: (quotF q f t).2.1, (quotF q f t).2.2.1, (quotF q f t).2.2.2)
theorem quotF_more (q : Nat) : ∀ (f g : Nat) (l : List Nat), l.length < f → l.length < g → quotF q f l = quotF q g l
  | 0, _, _, h, _ => absurd h (by omega)
  | _ + 1, 0, _, _, h => absurd h (by omega)
  | f + 1, g + 1, [], _, _ => rfl
  | f + 1, g + 1, c :: t, hf, hg => by
    simp only [List.length_cons] at hf hg
    unfold quotF
    rw [quotF_more q f g t (by omega) (by omega)]
    cases t with
    | nil => rfl
    | cons d u =>
      have h1 := escS_len (d :: u)
      have h2 := nlS_len (d :: u)
      dsimp only
      rw [quotF_more q f g (escS (d :: u)).2.1 (by omega) (by omega), quotF_more q f g (nlS (d :: u)) (by omega) (by omega)]
def quotS (q : Nat) (l : List Nat) : Bool × List Nat × List Nat × Bool := quotF q (l.length + 1) l
theorem quotS_nil (q : Nat) : quotS q [] = (true, [], [], true) := rfl
theorem quotS_end (q : Nat) (t : List Nat) : quotS q (q :: t) = (true, [], t, false) := by
  unfold quotS quotF; rw [if_pos rfl]
theorem quotS_nl (q c : Nat) (t : List Nat) (h : c ≠ q) (h2 : isNl c = true) : quotS q (c :: t) = (false, [], c :: t, false) := by
  unfold quotS quotF; rw [if_neg h, if_pos h2]
theorem quotS_last (q : Nat) (h : 92 ≠ q) : quotS q [92] = (true, [], [], true) := by
  unfold quotS quotF; rw [if_neg h, if_neg (by decide), if_pos rfl]
theorem quotS_cont (q d : Nat) (u : List Nat) (h : 92 ≠ q) (h2 : isNl d = true) : quotS q (92 :: d :: u) = quotS q (nlS (d :: u)) := by
  have h1 := nlS_len (d :: u)
  unfold quotS
  conv => lhs; unfold quotF
  rw [if_neg h, if_neg (by decide), if_pos rfl]
  dsimp only
  rw [if_pos h2]
  exact quotF_more q _ _ _ (by simp only [List.length_cons] at *; omega) (by omega)
theorem quotS_esc (q d : Nat) (u : List Nat) (h : 92 ≠ q) (h2 : isNl d = false) : quotS q (92 :: d :: u) =
    ((quotS q (escS (d :: u)).2.1).1, (escS (d :: u)).1 :: (quotS q (escS (d :: u)).2.1).2.1, (quotS q (escS (d :: u)).2.1).2.2.1, (escS (d :: u)).2.2 || (quotS q (escS (d :: u)).2.1).2.2.2) := by
  have h1 := escS_len (d :: u)
  unfold quotS
  conv => lhs; unfold quotF
  rw [if_neg h, if_neg (by decide), if_pos rfl]
  dsimp only
  rw [if_neg (by rw [h2]; decide)]
  rw [quotF_more q ((92 :: d :: u).length) ((escS (d :: u)).2.1.length + 1) _ (by simp only [List.length_cons] at *; omega) (by omega)]
theorem quotS_plain (q c : Nat) (t : List Nat) (h : c ≠ q) (h2 : isNl c = false) (h3 : c ≠ 92) : quotS q (c :: t) = ((quotS q t).1, c :: (quotS q t).2.1, (quotS q t).2.2.1, (quotS q t).2.2.2) := by
  unfold quotS
  conv => lhs; unfold quotF
  rw [if_neg h, if_neg (by rw [h2]; decide), if_neg h3]
  rfl

/-! ### numeric -/
/-- The sign. -/
def signS : List Nat → List Nat
  | [] => []
  | c :: t => if c = 43 ∨ c = 45 then t else c :: t
/-- A point and digits; whether a point without digits leaves it open. -/
def pointS : List Nat → List Nat × Bool
  | [] => ([], false)
  | c :: t => if c = 46 then (if dgB (cpAt t 0) = true then (dgS t, false) else (c :: t, true)) else (c :: t, false)
/-- An exponent. -/
def expS : List Nat → List Nat
  | [] => []
  | c :: t => if c = 101 ∨ c = 69 then (if dgB (cpAt t 0) = true ∨ ((cpAt t 0 = 43 ∨ cpAt t 0 = 45) ∧ dgB (cpAt t 1) = true) then dgS t.tail else c :: t) else c :: t
/-- The number itself. -/
def numS (l : List Nat) : List Nat × Bool := (expS (pointS (dgS (signS l))).1, (pointS (dgS (signS l))).2)
/-- How many bytes are still to come. -/
def blen (l : List Nat) : Nat := (encs l).length
/-- lexer.numeric. -/
def numericS (l : List Nat) : Tk × List Nat × Bool :=
  if identZ (cpAt (numS l).1 0) (cpAt (numS l).1 1) (cpAt (numS l).1 2) = true then (⟨26, blen l - blen (numS l).1, false, []⟩, (nameS (numS l).1).2.1, (numS l).2 || (nameS (numS l).1).2.2)
  else if cpAt (numS l).1 0 = 37 then (⟨34, 0, false, []⟩, (numS l).1.tail, (numS l).2)
  else (⟨30, 0, false, []⟩, (numS l).1, (numS l).2)

/-! ### addresses -/
/-- lexer.badURL: what is left, whether it is left open. -/
def badF : Nat → List Nat → List Nat × Bool
  | 0, l => (l, true)
  | _ + 1, [] => ([], true)
  | f + 1, c :: t =>
    if c = 41 then (t, false)
    else if c = 92 ∧ escOk t = true then ((badF f (escS t).2.1).1, true)
    else badF f t
theorem badF_more : ∀ (f g : Nat) (l : List Nat), l.length < f → l.length < g → badF f l = badF g l
  | 0, _, _, h, _ => absurd h (by omega)
  | _ + 1, 0, _, _, h => absurd h (by omega)
  | f + 1, g + 1, [], _, _ => rfl
  | f + 1, g + 1, c :: t, hf, hg => by
    simp only [List.length_cons] at hf hg
    have := escS_len t
    unfold badF
    rw [badF_more f g t (by omega) (by omega), badF_more f g (escS t).2.1 (by omega) (by omega)]
def badS (l : List Nat) : List Nat × Bool := badF (l.length + 1) l
theorem badS_nil : badS [] = ([], true) := rfl
theorem badS_end (t : List Nat) : badS (41 :: t) = (t, false) := by unfold badS badF; rw [if_pos rfl]
theorem badS_esc (t : List Nat) (h : escOk t = true) : badS (92 :: t) = ((badS (escS t).2.1).1, true) := by
  have := escS_len t
  unfold badS
  conv => lhs; unfold badF
  rw [if_neg (by decide), if_pos ⟨rfl, h⟩, badF_more _ ((escS t).2.1.length + 1) _ (by simp only [List.length_cons]; omega) (by omega)]
theorem badS_other (c : Nat) (t : List Nat) (h : c ≠ 41) (h2 : ¬ (c = 92 ∧ escOk t = true)) : badS (c :: t) = badS t := by
  unfold badS
  conv => lhs; unfold badF
  rw [if_neg h, if_neg h2]; rfl
/-- Does this code point spoil an address. -/
def spoils (c : Nat) (t : List Nat) : Bool := decide (c = 34 ∨ c = 39 ∨ c = 40 ∨ (c ≤ 8 ∨ c = 11 ∨ (14 ≤ c ∧ c ≤ 31) ∨ c = 127) ∨ (c = 92 ∧ escOk t = false))
/-- lexer.url: is it an address; its text, what is left, whether it is left open. -/
def urlF : Nat → List Nat → Bool × List Nat × List Nat × Bool
  | 0, l => (true, [], l, true)
  | _ + 1, [] => (true, [], [], true)
  | f + 1, c :: t =>
    if c = 41 then (true, [], t, false)
    else if isWs c = true then
      match spS t with
      | [] => (true, [], [], true)
      | d :: u => if d = 41 then (true, [], u, false) else (false, [], (badS (d :: u)).1, (badS (d :: u)).2)
    else if spoils c t = true then (false, [], (badS (c :: t)).1, (badS (c :: t)).2)
    else if c = 92 then ((urlF f (escS t).2.1).1, (escS t).1 :: (urlF f (escS t).2.1).2.1, (urlF f (escS t).2.1).2.2.1, (escS t).2.2 || (urlF f (escS t).2.1).2.2.2)
    else ((urlF f t).1, c :: (urlF f t).2.1, (urlF f t).2.2.1, (urlF f t).2.2.2)
theorem urlF_more : ∀ (f g : Nat) (l : List Nat), l.length < f → l.length < g → urlF f l = urlF g l
  | 0, _, _, h, _ => absurd h (by omega)
  | _ + 1, 0, _, _, h => absurd h (by omega)
  | f + 1, g + 1, [], _, _ => rfl
  | f + 1, g + 1, c :: t, hf, hg => by
    simp only [List.length_cons] at hf hg
    have := escS_len t
    unfold urlF
    rw [urlF_more f g t (by omega) (by omega), urlF_more f g (escS t).2.1 (by omega) (by omega)]
def urlS (l : List Nat) : Bool × List Nat × List Nat × Bool := urlF (l.length + 1) l
theorem urlS_nil : urlS [] = (true, [], [], true) := rfl
theorem urlS_end (t : List Nat) : urlS (41 :: t) = (true, [], t, false) := by unfold urlS urlF; rw [if_pos rfl]
theorem urlS_ws_nil (c : Nat) (t : List Nat) (h : isWs c = true) (hs : spS t = []) : urlS (c :: t) = (true, [], [], true) := by
  have h0 : c ≠ 41 := by rintro rfl; exact absurd h (by decide)
  unfold urlS urlF; rw [if_neg h0, if_pos h, hs]
theorem urlS_ws_end (c : Nat) (t u : List Nat) (h : isWs c = true) (hs : spS t = 41 :: u) : urlS (c :: t) = (true, [], u, false) := by
  have h0 : c ≠ 41 := by rintro rfl; exact absurd h (by decide)
  unfold urlS urlF; rw [if_neg h0, if_pos h, hs]; dsimp only; rw [if_pos rfl]
theorem urlS_ws_bad (c : Nat) (t : List Nat) (d : Nat) (u : List Nat) (h : isWs c = true) (hs : spS t = d :: u) (hd : d ≠ 41) : urlS (c :: t) = (false, [], (badS (d :: u)).1, (badS (d :: u)).2) := by
  have h0 : c ≠ 41 := by rintro rfl; exact absurd h (by decide)
  unfold urlS urlF; rw [if_neg h0, if_pos h, hs]; dsimp only; rw [if_neg hd]
theorem urlS_spoils (c : Nat) (t : List Nat) (h0 : c ≠ 41) (h1 : isWs c = false) (h : spoils c t = true) : urlS (c :: t) = (false, [], (badS (c :: t)).1, (badS (c :: t)).2) := by
  unfold urlS urlF; rw [if_neg h0, if_neg (by rw [h1]; decide), if_pos h]
theorem urlS_esc (t : List Nat) (h : escOk t = true) : urlS (92 :: t) = ((urlS (escS t).2.1).1, (escS t).1 :: (urlS (escS t).2.1).2.1, (urlS (escS t).2.1).2.2.1, (escS t).2.2 || (urlS (escS t).2.1).2.2.2) := by
  have := escS_len t
  have hs : spoils 92 t = false := by unfold spoils; rw [h]; decide
  unfold urlS
  conv => lhs; unfold urlF
  rw [if_neg (by decide), if_neg (by decide), if_neg (by rw [hs]; decide), if_pos rfl, urlF_more _ ((escS t).2.1.length + 1) (escS t).2.1 (by simp only [List.length_cons]; omega) (by omega)]
theorem urlS_plain (c : Nat) (t : List Nat) (h0 : c ≠ 41) (h1 : isWs c = false) (h : spoils c t = false) (h2 : c ≠ 92) : urlS (c :: t) = ((urlS t).1, c :: (urlS t).2.1, (urlS t).2.2.1, (urlS t).2.2.2) := by
  unfold urlS
  conv => lhs; unfold urlF
  rw [if_neg h0, if_neg (by rw [h1]; decide), if_neg (by rw [h]; decide), if_neg h2]; rfl

/-! ### names and what belongs to them -/
/-- Is it url, in letters of any size. -/
def isUrlC (l : List Nat) : Bool := match l with
  | [u, r, l] => (u == 117 || u == 85) && (r == 114 || r == 82) && (l == 108 || l == 76)
  | _ => false
/-- Neither begins nor ends with whitespace. -/
def trimC (l : List Nat) : Bool := match l with
  | [] => true
  | c :: t => !isWs c && !isWs ((c :: t).getLast (by simp))
/-- lexer.named, of an address: behind the bracket and the whitespace. -/
def addrS (short : Bool) (l : List Nat) : Tk × List Nat × Bool :=
  (⟨if (urlS l).1 = true then 37 else 3, 0, false, if (urlS l).1 = true then (urlS l).2.1 else []⟩, (urlS l).2.2.1, (urlS l).2.2.2 || !short || !trimC (if (urlS l).1 = true then (urlS l).2.1 else []))
/-- lexer.named. -/
def namedS (l : List Nat) : Tk × List Nat × Bool :=
  match (nameS l).2.1 with
  | [] => (⟨29, 0, false, (nameS l).1⟩, [], (nameS l).2.2)
  | c :: t =>
    if c ≠ 40 then (⟨29, 0, false, (nameS l).1⟩, c :: t, (nameS l).2.2)
    else if isUrlC (nameS l).1 = true ∧ cpAt (spS t) 0 ≠ 34 ∧ cpAt (spS t) 0 ≠ 39 then
      ((addrS (decide (blen l - blen (c :: t) = 3)) (spS t)).1, (addrS (decide (blen l - blen (c :: t) = 3)) (spS t)).2.1, (nameS l).2.2 || (addrS (decide (blen l - blen (c :: t) = 3)) (spS t)).2.2)
    else (⟨27, 0, false, (nameS l).1⟩, t, (nameS l).2.2)

/-! ### comments -/
/-- What follows the end of a comment. -/
def closeS : List Nat → Option (List Nat)
  | [] => none
  | c :: t => if c = 42 ∧ t.head? = some 47 then some t.tail else closeS t
theorem closeS_len : ∀ (l r : List Nat), closeS l = some r → r.length < l.length
  | [], _, h => by simp [closeS] at h
  | c :: t, r, h => by
    unfold closeS at h
    by_cases h1 : c = 42 ∧ t.head? = some 47
    · rw [if_pos h1] at h
      obtain rfl := Option.some.inj h
      simp only [List.length_cons, List.length_tail]; omega
    · rw [if_neg h1] at h
      have := closeS_len t r h
      simp only [List.length_cons]; omega
/-- lexer.comment: the comments (how many bytes are to come at their beginnings and ends), what is left, whether it is left open. -/
def commF : Nat → List Nat → List (Nat × Nat) × List Nat × Bool
  | 0, l => ([], l, false)
  | f + 1, l =>
    if cpAt l 0 = 47 ∧ cpAt l 1 = 42 then
      match closeS (l.drop 2) with
      | none => ([(blen l, 0)], [], true)
      | some r => ((blen l, blen r) :: (commF f r).1, (commF f r).2.1, (commF f r).2.2)
    else ([], l, false)
theorem two_len {l : List Nat} (h : cpAt l 0 = 47 ∧ cpAt l 1 = 42) : ∃ t, l = 47 :: 42 :: t := by
  obtain ⟨h0, h1⟩ := h
  match l with
  | [] => simp [cpAt_nil] at h0
  | [c] => rw [cpAt_succ_cons, cpAt_nil] at h1; omega
  | c :: d :: t =>
    rw [cpAt_zero_cons] at h0
    rw [cpAt_succ_cons, cpAt_zero_cons] at h1
    have h0' : c = 47 := by omega
    have h1' : d = 42 := by omega
    exact ⟨t, by rw [h0', h1']⟩
theorem commF_more : ∀ (f g : Nat) (l : List Nat), l.length < f → l.length < g → commF f l = commF g l
  | 0, _, _, h, _ => absurd h (by omega)
  | _ + 1, 0, _, _, h => absurd h (by omega)
  | f + 1, g + 1, l, hf, hg => by
    unfold commF
    by_cases h : cpAt l 0 = 47 ∧ cpAt l 1 = 42
    · rw [if_pos h, if_pos h]
      cases hc : closeS (l.drop 2) with
      | none => rfl
      | some r =>
        have := closeS_len _ _ hc
        rw [List.length_drop] at this
        dsimp only
        rw [commF_more f g r (by omega) (by omega)]
    · rw [if_neg h, if_neg h]
def commS (l : List Nat) : List (Nat × Nat) × List Nat × Bool := commF (l.length + 1) l
theorem commS_no (l : List Nat) (h : ¬ (cpAt l 0 = 47 ∧ cpAt l 1 = 42)) : commS l = ([], l, false) := by unfold commS commF; rw [if_neg h]
theorem commS_open (t : List Nat) (h : closeS t = none) : commS (47 :: 42 :: t) = ([(blen (47 :: 42 :: t), 0)], [], true) := by
  unfold commS commF; rw [if_pos ⟨rfl, rfl⟩]; show (match closeS t with | none => _ | some r => _) = _; rw [h]
theorem commS_some (t r : List Nat) (h : closeS t = some r) : commS (47 :: 42 :: t) = ((blen (47 :: 42 :: t), blen r) :: (commS r).1, (commS r).2.1, (commS r).2.2) := by
  have := closeS_len _ _ h
  unfold commS
  conv => lhs; unfold commF
  rw [if_pos ⟨rfl, rfl⟩]; show (match closeS t with | none => _ | some r => _) = _; rw [h]
  dsimp only
  rw [commF_more _ (r.length + 1) r (by simp only [List.length_cons]; omega) (by omega)]

/-! ### the next token, all tokens -/
/-- The kind of a sign. -/
def signK (c : Nat) : Nat :=
  if c = 123 then 31 else if c = 125 then 6 else if c = 91 then 32 else if c = 93 then 7 else if c = 40 then 33 else if c = 41 then 8
  else if c = 58 then 9 else if c = 59 then 35 else if c = 44 then 10 else if c = 38 then 12 else if c = 42 then 13 else if c = 124 then 14
  else if c = 94 then 15 else if c = 36 then 16 else if c = 46 then 17 else if c = 61 then 18 else if c = 33 then 19 else if c = 62 then 20
  else if c = 60 then 21 else if c = 45 then 22 else if c = 43 then 23 else if c = 47 then 24 else if c = 126 then 25 else 11
/-- Do three code points begin a number. -/
def countZ (a b c : Int) : Bool := if a = 43 ∨ a = 45 then dgB b || (decide (b = 46) && dgB c) else dgB a || (decide (a = 46) && dgB b)
/-- lexer.next, ahead of c :: t. -/
def nextS (c : Nat) (t : List Nat) : Tk × List Nat × Bool :=
  if isWs c = true then (⟨38, 0, false, []⟩, spS t, false)
  else if c = 34 ∨ c = 39 then (⟨if (quotS c t).1 = true then 36 else 2, 0, false, if (quotS c t).1 = true then (quotS c t).2.1 else []⟩, (quotS c t).2.2.1, (quotS c t).2.2.2)
  else if c = 35 ∧ (scB (cpAt t 0) || escZ (cpAt t 0) (cpAt t 1)) = true then (⟨28, 0, identZ (cpAt t 0) (cpAt t 1) (cpAt t 2), (nameS t).1⟩, (nameS t).2.1, (nameS t).2.2)
  else if countZ (c : Int) (cpAt t 0) (cpAt t 1) = true then numericS (c :: t)
  else if c = 45 ∧ cpAt t 0 = 45 ∧ cpAt t 1 = 62 then (⟨4, 0, false, []⟩, t.drop 2, false)
  else if identZ (c : Int) (cpAt t 0) (cpAt t 1) = true then namedS (c :: t)
  else if c = 60 ∧ cpAt t 0 = 33 ∧ cpAt t 1 = 45 ∧ cpAt t 2 = 45 then (⟨5, 0, false, []⟩, t.drop 3, false)
  else if c = 64 ∧ identZ (cpAt t 0) (cpAt t 1) (cpAt t 2) = true then (⟨1, 0, false, (nameS t).1⟩, (nameS t).2.1, (nameS t).2.2)
  else (⟨signK c, 0, false, []⟩, t, false)
/-- A token and its place: how many bytes are to come at its beginning and its end. -/
structure Tp where
  tk : Tk
  b : Nat
  e : Nat
/-- spec.Tokens: the tokens o, the comments cs, whether it is left open. -/
def TokR : List Tp → List Nat → List (Nat × Nat) → Bool → Prop
  | [], l, cs, op => (commS l).2.1 = [] ∧ cs = (commS l).1 ∧ op = (commS l).2.2
  | tp :: o, l, cs, op => ∃ c t cs' op', (commS l).2.1 = c :: t ∧ tp = ⟨(nextS c t).1, blen (c :: t), blen (nextS c t).2.1⟩ ∧ TokR o (nextS c t).2.1 cs' op' ∧ cs = (commS l).1 ++ cs' ∧ op = ((commS l).2.2 || ((nextS c t).2.2 || op'))
end Go.Proofs.YtmgkccnfhkcncaaGreatDoor
