/-
  Plain Lean, no program: css_lexer's lexer on bytes, its tokens.
-/
import Derived.Test.YtmgkccnfhkcncaaGreatDoorMathI
import Derived.Test.YtmgkccnfhkcncaaGreatDoorUrlB
import Derived.Lib.MapLaws
import Derived.Lib.TrimAscii
namespace Go.Proofs.YtmgkccnfhkcncaaGreatDoor
open Go

/-! ### a loop over a state that grows shorter -/
def loopF {σ α : Type} (st : σ → α ⊕ σ) (d : α) : Nat → σ → α
  | 0, _ => d
  | f + 1, x => match st x with
    | .inl a => a
    | .inr y => loopF st d f y
theorem loopF_more {σ α : Type} (st : σ → α ⊕ σ) (d : α) (m : σ → Nat) (hm : ∀ x y, st x = .inr y → m y < m x) : ∀ (f g : Nat) (x : σ), m x < f → m x < g → loopF st d f x = loopF st d g x
  | 0, _, _, h, _ => absurd h (by omega)
  | _ + 1, 0, _, _, h => absurd h (by omega)
  | f + 1, g + 1, x, hf, hg => by
    unfold loopF
    cases h : st x with
    | inl a => rfl
    | inr y =>
      have := hm x y h
      exact loopF_more st d m hm f g y (by omega) (by omega)
/-- The loop over bytes. -/
def loopB {α : Type} (st : List UInt8 → α ⊕ List UInt8) (d : α) (r : List UInt8) : α := loopF st d (r.length + 1) r
theorem loopB_end {α : Type} {st : List UInt8 → α ⊕ List UInt8} {d : α} {r : List UInt8} {a : α} (h : st r = .inl a) : loopB st d r = a := by
  unfold loopB loopF; rw [h]
theorem loopB_go {α : Type} {st : List UInt8 → α ⊕ List UInt8} {d : α} {r y : List UInt8} (hm : ∀ x y, st x = .inr y → y.length < x.length) (h : st r = .inr y) : loopB st d r = loopB st d y := by
  have := hm r y h
  unfold loopB
  conv => lhs; unfold loopF
  rw [h]
  exact loopF_more st d List.length hm _ _ y (by omega) (by omega)
/-- What a loop ends with has a property that its ends have. -/
theorem loopB_ind {α : Type} {st : List UInt8 → α ⊕ List UInt8} {d : α} (hm : ∀ x y, st x = .inr y → y.length < x.length) (Q : List UInt8 → α → Prop)
    (he : ∀ x a, st x = .inl a → Q x a) (hg : ∀ x y a, st x = .inr y → Q y a → Q x a) : ∀ (n : Nat) (r : List UInt8), r.length ≤ n → Q r (loopB st d r)
  | 0, r, h => by
    cases hs : st r with
    | inl a => rw [loopB_end hs]; exact he r a hs
    | inr y => have := hm r y hs; omega
  | n + 1, r, h => by
    cases hs : st r with
    | inl a => rw [loopB_end hs]; exact he r a hs
    | inr y =>
      have := hm r y hs
      rw [loopB_go hm hs]
      exact hg r y _ hs (loopB_ind hm Q he hg n y (by omega))

/-! ### small steps -/
theorem decodeN_high (n b0 b1 b2 b3 : Nat) (h : 128 ≤ b0) : 128 ≤ (Lib.decodeN n b0 b1 b2 b3).1 := by
  rcases Lib.decodeN_shape n b0 b1 b2 b3 with ⟨h1, e⟩ | ⟨_, _, _, h1, e⟩ | ⟨_, _, _, _, h1, _, e⟩ | ⟨_, _, _, _, _, h1, _, e⟩ | e <;> rw [e] <;> dsimp only <;> omega
theorem hd_ne {r : List UInt8} {c : Int} (h : hdB r = c) (hc : c ≠ -1) : r ≠ [] := by rintro rfl; exact hc h.symm
theorem tl_lt {r : List UInt8} {c : Int} (h : hdB r = c) (hc : c ≠ -1) : (tlB r).length < r.length := tlB_len (hd_ne h hc)
theorem decodeN_w4 (n b0 b1 b2 b3 : Nat) : (Lib.decodeN n b0 b1 b2 b3).2 ≤ 4 := by
  rcases Lib.decodeN_shape n b0 b1 b2 b3 with ⟨h1, e⟩ | ⟨_, _, _, h1, e⟩ | ⟨_, _, _, _, h1, _, e⟩ | ⟨_, _, _, _, _, h1, _, e⟩ | e <;> rw [e] <;> dsimp only <;> omega
/-- An ASCII byte is its own code point. -/
theorem hdB_ascii {x : UInt8} {t : List UInt8} (h : x.toNat < 128) : hdB (x :: t) = (x.toNat : Int) := by
  rw [hdB_cons (by simp), Lib.decodeL_ascii x t h]
theorem tlB_ascii {x : UInt8} {t : List UInt8} (h : x.toNat < 128) : tlB (x :: t) = t := by
  unfold tlB; rw [Lib.decodeL_ascii x t h]; rfl
theorem widB_ascii {x : UInt8} {t : List UInt8} (h : x.toNat < 128) : widB (x :: t) = 1 := by
  unfold widB decG; rw [if_neg (by simp), Lib.decodeL_ascii x t h]
/-- A code point below 128 is one byte. -/
theorem hdB_high {x : UInt8} {t : List UInt8} (h : 128 ≤ x.toNat) : 128 ≤ hdB (x :: t) := by
  rw [hdB_cons (by simp), Lib.decodeL_N]
  have hx : ((x :: t).getD 0 0).toNat = x.toNat := rfl
  rw [hx]
  have := decodeN_high (x :: t).length x.toNat (((x :: t).getD 1 0).toNat) (((x :: t).getD 2 0).toNat) (((x :: t).getD 3 0).toNat) h
  omega
theorem hdB_low {r : List UInt8} {c : Nat} (h : hdB r = (c : Int)) (hc : c < 128) : ∃ x t, r = x :: t ∧ x.toNat = c ∧ tlB r = t ∧ widB r = 1 := by
  match r, h with
  | [], h => rw [hdB_nil] at h; omega
  | x :: t, h =>
    by_cases hx : x.toNat < 128
    · rw [hdB_ascii hx] at h
      exact ⟨x, t, rfl, by omega, tlB_ascii hx, widB_ascii hx⟩
    · have := hdB_high (t := t) (by omega : 128 ≤ x.toNat)
      omega

/-! ### numbers -/
def digU (x : UInt8) : Bool := decide (48 ≤ x.toNat ∧ x.toNat ≤ 57)
/-- Is the byte at a place a digit. -/
def digAt (r : List UInt8) (i : Nat) : Bool := match r[i]? with
  | some x => digU x
  | none => false
def pmAt (r : List UInt8) (i : Nat) : Bool := match r[i]? with
  | some x => decide (x.toNat = 43 ∨ x.toNat = 45)
  | none => false
def dotAt (r : List UInt8) (i : Nat) : Bool := match r[i]? with
  | some x => decide (x.toNat = 46)
  | none => false
/-- wouldStartNumber. -/
def cntB (r : List UInt8) : Bool :=
  if dgB (hdB r) = true then true
  else if hdB r = 46 then digAt (tlB r) 0
  else if hdB r = 43 ∨ hdB r = 45 then digAt (tlB r) 0 || (dotAt (tlB r) 0 && digAt (tlB r) 1)
  else false
def dgsB (r : List UInt8) : List UInt8 := r.dropWhile digU
theorem digU_hd {x : UInt8} {t : List UInt8} : digU x = dgB (hdB (x :: t)) := by
  unfold digU dgB
  by_cases hx : x.toNat < 128
  · rw [hdB_ascii hx]; rw [Bool.eq_iff_iff, decide_eq_true_iff, decide_eq_true_iff]; omega
  · have := hdB_high (t := t) (by omega : 128 ≤ x.toNat)
    rw [Bool.eq_iff_iff, decide_eq_true_iff, decide_eq_true_iff]; omega
theorem dgsB_go {r : List UInt8} (h : dgB (hdB r) = true) : dgsB r = dgsB (tlB r) := by
  have h' : 48 ≤ hdB r ∧ hdB r ≤ 57 := of_decide_eq_true h
  obtain ⟨c, hc⟩ : ∃ c : Nat, hdB r = (c : Int) := ⟨(hdB r).toNat, by omega⟩
  obtain ⟨x, t, rfl, hx, ht, _⟩ := hdB_low hc (by omega)
  rw [ht]
  unfold dgsB
  rw [List.dropWhile_cons, if_pos (by rw [digU_hd (t := t)]; exact h)]
theorem dgsB_stop {r : List UInt8} (h : dgB (hdB r) = false) : dgsB r = r := by
  match r, h with
  | [], _ => rfl
  | x :: t, h =>
    unfold dgsB
    rw [List.dropWhile_cons, if_neg (by rw [digU_hd (t := t), h]; decide)]
theorem dgsB_le (r : List UInt8) : (dgsB r).length ≤ r.length := dropWhile_len _ _
def signB (r : List UInt8) : List UInt8 := if hdB r = 43 ∨ hdB r = 45 then tlB r else r
def pointB (r : List UInt8) : List UInt8 := if hdB r = 46 then dgsB (tlB r) else r
/-- Is it an exponent, behind its letter. -/
def expLook (t : List UInt8) : Bool := if pmAt t 0 = true ∧ 1 < t.length then digAt t 1 else digAt t 0
def expB (r : List UInt8) : List UInt8 := if (hdB r = 101 ∨ hdB r = 69) ∧ expLook (tlB r) = true then dgsB (signB (tlB r)) else r
def numB (r : List UInt8) : List UInt8 := expB (pointB (dgsB (signB r)))

/-! ### names -/
/-- consumeName: what is left. -/
def nameR (r : List UInt8) : List UInt8 := if vescB (fastB r) = true then (nloopB (escV (fastB r)).2).2 else fastB r
/-- What it writes. -/
def nameW (r : List UInt8) : List UInt8 := r.take (r.length - (fastB r).length) ++ (if vescB (fastB r) = true then Lib.encodeRune ((escV (fastB r)).1 : Int) ++ (nloopB (escV (fastB r)).2).1 else [])
/-- consumeNumeric: its kind, how many bytes are ahead of its unit, what is left. -/
def numericB (r : List UInt8) : Nat × Nat × List UInt8 :=
  if wouldB (numB r) = true then (26, r.length - (numB r).length, nameR (numB r))
  else if hdB (numB r) = 37 then (34, 0, tlB (numB r))
  else (30, 0, numB r)

/-! ### strings -/
def strStep (q : Int) (r : List UInt8) : (Bool × List UInt8) ⊕ List UInt8 :=
  if hdB r = 92 then (if hdB (tlB r) = 13 then .inr (if hdB (tlB (tlB r)) = 10 then tlB (tlB (tlB r)) else tlB (tlB r)) else .inr (tlB (tlB r)))
  else if hdB r = -1 ∨ nlB (hdB r) = true then .inl (false, r)
  else if hdB r = q then .inl (true, tlB r)
  else .inr (tlB r)
theorem strStep_lt (q : Int) (x y : List UInt8) (h : strStep q x = .inr y) : y.length < x.length := by
  unfold strStep at h
  by_cases h1 : hdB x = 92
  · have h0 := tl_lt h1 (by decide)
    have h2 := tlB_le (tlB x)
    have h3 := tlB_le (tlB (tlB x))
    rw [if_pos h1] at h
    split at h
    · obtain rfl := Sum.inr.inj h
      split <;> omega
    · obtain rfl := Sum.inr.inj h
      omega
  · rw [if_neg h1] at h
    by_cases h2 : hdB x = -1 ∨ nlB (hdB x) = true
    · rw [if_pos h2] at h; cases h
    · rw [if_neg h2] at h
      split at h
      · cases h
      · obtain rfl := Sum.inr.inj h
        exact tl_lt rfl (fun e => h2 (.inl e))
/-- consumeString behind its quote: does it end; what is left. -/
def strB (q : Int) (r : List UInt8) : Bool × List UInt8 := loopB (strStep q) (false, []) r

/-! ### addresses -/
def spcB (r : List UInt8) : List UInt8 := r.dropWhile fun x => spB (x.toNat : Int)
theorem spU_hd {x : UInt8} {t : List UInt8} : spB (x.toNat : Int) = spB (hdB (x :: t)) := by
  unfold spB
  by_cases hx : x.toNat < 128
  · rw [hdB_ascii hx]
  · have := hdB_high (t := t) (by omega : 128 ≤ x.toNat)
    rw [Bool.eq_iff_iff, decide_eq_true_iff, decide_eq_true_iff]; omega
theorem spcB_go {r : List UInt8} (h : spB (hdB r) = true) : spcB r = spcB (tlB r) := by
  have h' : hdB r = 10 ∨ hdB r = 13 ∨ hdB r = 12 ∨ hdB r = 9 ∨ hdB r = 32 := of_decide_eq_true h
  obtain ⟨c, hc⟩ : ∃ c : Nat, hdB r = (c : Int) := ⟨(hdB r).toNat, by omega⟩
  obtain ⟨x, t, rfl, hx, ht, _⟩ := hdB_low hc (by omega)
  rw [ht]
  unfold spcB
  rw [List.dropWhile_cons, if_pos (by rw [spU_hd (t := t)]; exact h)]
theorem spcB_stop {r : List UInt8} (h : spB (hdB r) = false) : spcB r = r := by
  match r, h with
  | [], _ => rfl
  | x :: t, h =>
    unfold spcB
    rw [List.dropWhile_cons, if_neg (by rw [spU_hd (t := t), h]; decide)]
theorem spcB_le (r : List UInt8) : (spcB r).length ≤ r.length := dropWhile_len _ _
/-- consumeURL: how it ends: its kind, whether it told something, what is left; none: the remnants of a bad address follow. -/
def urlStep (r : List UInt8) : (Option (Bool × List UInt8) × List UInt8) ⊕ List UInt8 :=
  if hdB r = 41 then .inl (some (false, tlB r), [])
  else if hdB r = -1 then .inl (some (true, r), [])
  else if spB (hdB r) = true then
    (if hdB (spcB (tlB r)) = 41 then .inl (some (false, tlB (spcB (tlB r))), [])
     else if hdB (spcB (tlB r)) = -1 then .inl (some (true, spcB (tlB r)), [])
     else .inl (none, spcB (tlB r)))
  else if hdB r = 34 ∨ hdB r = 39 ∨ hdB r = 40 then .inl (none, r)
  else if hdB r = 92 then (if vescB r = true then .inr (escV r).2 else .inl (none, r))
  else if unpB (hdB r) = true then .inl (none, r)
  else .inr (tlB r)
theorem urlStep_lt (x y : List UInt8) (h : urlStep x = .inr y) : y.length < x.length := by
  unfold urlStep at h
  by_cases h1 : hdB x = 41
  · rw [if_pos h1] at h; cases h
  rw [if_neg h1] at h
  by_cases h2 : hdB x = -1
  · rw [if_pos h2] at h; cases h
  rw [if_neg h2] at h
  have h0 := tl_lt (r := x) rfl h2
  by_cases h3 : spB (hdB x) = true
  · rw [if_pos h3] at h
    split at h
    · cases h
    · split at h <;> cases h
  rw [if_neg h3] at h
  by_cases h4 : hdB x = 34 ∨ hdB x = 39 ∨ hdB x = 40
  · rw [if_pos h4] at h; cases h
  rw [if_neg h4] at h
  by_cases h5 : hdB x = 92
  · rw [if_pos h5] at h
    split at h
    · obtain rfl := Sum.inr.inj h
      have := escV_le x
      omega
    · cases h
  rw [if_neg h5] at h
  split at h
  · cases h
  · obtain rfl := Sum.inr.inj h
    exact h0
def urlB (r : List UInt8) : Option (Bool × List UInt8) × List UInt8 := loopB urlStep (none, []) r
/-- The remnants of a bad address. -/
def badStep (r : List UInt8) : List UInt8 ⊕ List UInt8 :=
  if hdB r = 41 ∨ hdB r = -1 then .inl (tlB r)
  else if vescB r = true then .inr (tlB (escV r).2)
  else .inr (tlB r)
theorem badStep_lt (x y : List UInt8) (h : badStep x = .inr y) : y.length < x.length := by
  unfold badStep at h
  by_cases h1 : hdB x = 41 ∨ hdB x = -1
  · rw [if_pos h1] at h; cases h
  rw [if_neg h1] at h
  have h0 := tl_lt (r := x) rfl (fun e => h1 (.inr e))
  split at h
  · obtain rfl := Sum.inr.inj h
    have := escV_le x
    have := tlB_le (escV x).2
    omega
  · obtain rfl := Sum.inr.inj h
    exact h0
def badB (r : List UInt8) : List UInt8 := loopB badStep [] r
/-- consumeURL: its kind, whether it told something, what is left. -/
def addrB (r : List UInt8) : Nat × Bool × List UInt8 := match urlB r with
  | (some (t, x), _) => (37, t, x)
  | (none, x) => (3, true, badB x)
/-- consumeIdentLike: its kind, whether it told something, what is left. -/
def identB (r : List UInt8) : Nat × Bool × List UInt8 :=
  if hdB (nameR r) = 40 then
    (if isUrlB (nameW r) = true ∧ hdB (spcB (tlB (nameR r))) ≠ 34 ∧ hdB (spcB (tlB (nameR r))) ≠ 39 then addrB (spcB (tlB (nameR r)))
     else (27, false, tlB (nameR r)))
  else (29, false, nameR r)
end Go.Proofs.YtmgkccnfhkcncaaGreatDoor
