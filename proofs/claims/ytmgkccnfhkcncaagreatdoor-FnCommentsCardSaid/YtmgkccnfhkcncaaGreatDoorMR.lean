/-
  Plain Lean, no program: css_lexer's next token in general, on bytes: comments, whitespace with comments in it, all signs. Plain Lean, no program: css_lexer's tokens on bytes: each is some bytes long. Plain Lean, no program: all tokens and comments of a text, on bytes; they follow one another. Plain Lean, no program: css_lexer's next token, class by class.
-/
import Derived.Test.YtmgkccnfhkcncaaGreatDoorMP
import Derived.Test.YtmgkccnfhkcncaaGreatDoorLgA
namespace Go.Proofs.YtmgkccnfhkcncaaGreatDoor
open Go

/-! ### comments -/
/-- Behind the beginning of a comment: what follows its end; none: it does not end. -/
def cmtStep (r : List UInt8) : Option (List UInt8) ⊕ List UInt8 :=
  if hdB r = 42 then (if hdB (tlB r) = 47 then .inl (some (tlB (tlB r))) else .inr (tlB r))
  else if hdB r = -1 then .inl none
  else .inr (tlB r)
theorem cmtStep_lt (x y : List UInt8) (h : cmtStep x = .inr y) : y.length < x.length := by
  unfold cmtStep at h
  by_cases h1 : hdB x = 42
  · have h0 := tl_lt h1 (by decide)
    rw [if_pos h1] at h
    split at h
    · cases h
    · obtain rfl := Sum.inr.inj h
      exact h0
  · rw [if_neg h1] at h
    by_cases h2 : hdB x = -1
    · rw [if_pos h2] at h; cases h
    · rw [if_neg h2] at h
      obtain rfl := Sum.inr.inj h
      exact tl_lt rfl h2
def cmtB (r : List UInt8) : Option (List UInt8) := loopB cmtStep none r
theorem cmtB_go {r y : List UInt8} (h : cmtStep r = .inr y) : cmtB r = cmtB y := loopB_go cmtStep_lt h
theorem cmtB_end {r : List UInt8} {a : Option (List UInt8)} (h : cmtStep r = .inl a) : cmtB r = a := loopB_end h
theorem cmtB_stop {r : List UInt8} (h : hdB r = 42) (h2 : hdB (tlB r) = 47) : cmtB r = some (tlB (tlB r)) := cmtB_end (by unfold cmtStep; rw [if_pos h, if_pos h2])
theorem cmtB_star {r : List UInt8} (h : hdB r = 42) (h2 : hdB (tlB r) ≠ 47) : cmtB r = cmtB (tlB r) := cmtB_go (by unfold cmtStep; rw [if_pos h, if_neg h2])
theorem cmtB_none {r : List UInt8} (h : hdB r = -1) : cmtB r = none := cmtB_end (by unfold cmtStep; rw [if_neg (by omega), if_pos h])
theorem cmtB_over {r : List UInt8} (h : hdB r ≠ 42) (h2 : hdB r ≠ -1) : cmtB r = cmtB (tlB r) := cmtB_go (by unfold cmtStep; rw [if_neg h, if_neg h2])
theorem cmtB_lt (r : List UInt8) : ∀ R, cmtB r = some R → R.length + 2 ≤ r.length := by
  refine loopB_ind cmtStep_lt (fun x y => ∀ R, y = some R → R.length + 2 ≤ x.length) ?_ ?_ _ r (Nat.le_refl _)
  · intro x a h R hR
    unfold cmtStep at h
    split at h
    · rename_i h1
      split at h
      · rename_i h2
        have e := Sum.inl.inj h
        rw [hR] at e
        obtain rfl := Option.some.inj e
        have := tl_lt h1 (by decide)
        have := tl_lt h2 (by decide)
        omega
      · cases h
    · split at h
      · have e := Sum.inl.inj h
        rw [hR] at e
        cases e
      · cases h
  · intro x y a h hq R hR
    have := cmtStep_lt x y h
    have := hq R hR
    omega
theorem cmtB_suf (r : List UInt8) : ∀ R, cmtB r = some R → R <:+ r := by
  refine loopB_ind cmtStep_lt (fun x y => ∀ R, y = some R → R <:+ x) ?_ ?_ _ r (Nat.le_refl _)
  · intro x a h R hR
    unfold cmtStep at h
    split at h
    · split at h
      · have e := Sum.inl.inj h
        rw [hR] at e
        obtain rfl := Option.some.inj e
        exact (tlB_suf _).trans (tlB_suf _)
      · cases h
    · split at h
      · have e := Sum.inl.inj h
        rw [hR] at e
        cases e
      · cases h
  · intro x y a h hq R hR
    have h1 := hq R hR
    unfold cmtStep at h
    split at h
    · split at h
      · cases h
      · obtain rfl := Sum.inr.inj h
        exact h1.trans (tlB_suf _)
    · split at h
      · cases h
      · obtain rfl := Sum.inr.inj h
        exact h1.trans (tlB_suf _)
theorem cmt_drop {r R : List UInt8} (hc : cmtB (tlB (tlB r)) = some R) : R = r.drop (r.length - R.length) :=
  List.suffix_iff_eq_drop.1 ((cmtB_suf _ R hc).trans ((tlB_suf _).trans (tlB_suf _)))
/-- In a comment that does not end there is no end. -/
theorem cmtB_no (r : List UInt8) : cmtB r = none → ∀ i x y, r[i]? = some x → r[i + 1]? = some y → ¬ (x.toNat = 42 ∧ y.toNat = 47) := by
  refine loopB_ind cmtStep_lt (fun a b => b = none → ∀ i x y, a[i]? = some x → a[i + 1]? = some y → ¬ (x.toNat = 42 ∧ y.toNat = 47)) ?_ ?_ _ r (Nat.le_refl _)
  · intro a b h hb i x y hx hy
    unfold cmtStep at h
    split at h
    · split at h
      · have e := Sum.inl.inj h
        rw [hb] at e
        cases e
      · cases h
    · split at h
      · rename_i h1
        rw [hdB_end h1] at hx
        simp at hx
      · cases h
  · intro a b c h hq hc i x y hx hy
    have hb : b = tlB a ∧ (hdB a = 42 → hdB (tlB a) ≠ 47) ∧ hdB a ≠ -1 := by
      unfold cmtStep at h
      split at h
      · rename_i h1
        split at h
        · cases h
        · rename_i h2
          obtain rfl := Sum.inr.inj h
          exact ⟨rfl, fun _ => h2, by omega⟩
      · rename_i h1
        split at h
        · cases h
        · rename_i h2
          obtain rfl := Sum.inr.inj h
          exact ⟨rfl, fun e => absurd e h1, h2⟩
    obtain ⟨rfl, h1, h2⟩ := hb
    have hne : a ≠ [] := by rintro rfl; exact h2 hdB_nil
    rcases Nat.lt_or_ge i (widB a) with h3 | h3
    · rintro ⟨hx1, hy1⟩
      have hw1 : widB a = 1 := by
        have := widB_pos hne
        rcases Nat.lt_or_ge 1 (widB a) with h4 | h4
        · obtain ⟨x', e1, e2⟩ := multi h4 i h3
          rw [hx] at e1
          obtain rfl := Option.some.inj e1
          omega
        · omega
      have hi : i = 0 := by omega
      subst hi
      match a, hne with
      | u :: t, _ =>
        obtain rfl : u = x := by simpa using hx
        have e1 : hdB (u :: t) = 42 := by rw [hdB_ascii (by omega)]; omega
        have e2 : tlB (u :: t) = t := tlB_ascii (by omega)
        have h5 := h1 e1
        rw [e2] at h5
        match t with
        | [] => simp at hy
        | v :: t' =>
          obtain rfl : v = y := by simpa using hy
          exact h5 (by rw [hdB_ascii (by omega)]; omega)
    · have e := tlB_drop a
      have hx' : (tlB a)[i - widB a]? = some x := by rw [e, List.getElem?_drop, show widB a + (i - widB a) = i by omega]; exact hx
      have hy' : (tlB a)[i - widB a + 1]? = some y := by rw [e, List.getElem?_drop, show widB a + (i - widB a + 1) = i + 1 by omega]; exact hy
      exact hq hc _ x y hx' hy'

/-! ### whitespace with comments in it; comments ahead of a token -/
/-- Does a comment begin. -/
def startC (r : List UInt8) : Prop := hdB r = 47 ∧ hdB (tlB r) = 42
instance (r : List UInt8) : Decidable (startC r) := by unfold startC; infer_instance
/-- The comments (how many bytes are to come at their beginnings and ends), what is left. -/
def wcF : Nat → List UInt8 → List (Nat × Nat) × List UInt8
  | 0, r => ([], r)
  | f + 1, r =>
    if spB (hdB r) = true then wcF f (tlB r)
    else if startC r then
      match cmtB (tlB (tlB r)) with
      | some R => ((r.length, R.length) :: (wcF f R).1, (wcF f R).2)
      | none => ([], [])
    else ([], r)
def skF : Nat → List UInt8 → List (Nat × Nat) × List UInt8
  | 0, r => ([], r)
  | f + 1, r =>
    if startC r then
      match cmtB (tlB (tlB r)) with
      | some R => ((r.length, R.length) :: (skF f R).1, (skF f R).2)
      | none => ([], [])
    else ([], r)
theorem sp_ne {r : List UInt8} (h : spB (hdB r) = true) : r ≠ [] := by rintro rfl; exact absurd h (by decide)
theorem start_two {r : List UInt8} (h : startC r) : (tlB (tlB r)).length + 2 ≤ r.length := by
  have h1 := tl_lt h.1 (by decide)
  have h2 := tl_lt h.2 (by decide)
  omega
theorem start_lt {r R : List UInt8} (h : startC r) (hc : cmtB (tlB (tlB r)) = some R) : R.length + 4 ≤ r.length := by
  have h1 := start_two h
  have h2 := cmtB_lt _ R hc
  omega
theorem wcF_more : ∀ (f g : Nat) (r : List UInt8), r.length < f → r.length < g → wcF f r = wcF g r
  | 0, _, _, h, _ => absurd h (by omega)
  | _ + 1, 0, _, _, h => absurd h (by omega)
  | f + 1, g + 1, r, hf, hg => by
    unfold wcF
    by_cases h1 : spB (hdB r) = true
    · have := tlB_len (sp_ne h1)
      rw [if_pos h1, if_pos h1, wcF_more f g (tlB r) (by omega) (by omega)]
    · rw [if_neg h1, if_neg h1]
      by_cases h2 : startC r
      · rw [if_pos h2, if_pos h2]
        cases hc : cmtB (tlB (tlB r)) with
        | none => rfl
        | some R =>
          have := start_lt h2 hc
          dsimp only
          rw [wcF_more f g R (by omega) (by omega)]
      · rw [if_neg h2, if_neg h2]
theorem skF_more : ∀ (f g : Nat) (r : List UInt8), r.length < f → r.length < g → skF f r = skF g r
  | 0, _, _, h, _ => absurd h (by omega)
  | _ + 1, 0, _, _, h => absurd h (by omega)
  | f + 1, g + 1, r, hf, hg => by
    unfold skF
    by_cases h2 : startC r
    · rw [if_pos h2, if_pos h2]
      cases hc : cmtB (tlB (tlB r)) with
      | none => rfl
      | some R =>
        have := start_lt h2 hc
        dsimp only
        rw [skF_more f g R (by omega) (by omega)]
    · rw [if_neg h2, if_neg h2]
def wcB (r : List UInt8) : List (Nat × Nat) × List UInt8 := wcF (r.length + 1) r
def skB (r : List UInt8) : List (Nat × Nat) × List UInt8 := skF (r.length + 1) r
theorem wcB_sp {r : List UInt8} (h : spB (hdB r) = true) : wcB r = wcB (tlB r) := by
  have := tlB_len (sp_ne h)
  unfold wcB
  conv => lhs; unfold wcF
  rw [if_pos h, wcF_more _ ((tlB r).length + 1) (tlB r) (by omega) (by omega)]
theorem sp_start {r : List UInt8} (h : startC r) : ¬ spB (hdB r) = true := by rw [h.1]; decide
theorem wcB_cmt {r R : List UInt8} (h : startC r) (hc : cmtB (tlB (tlB r)) = some R) : wcB r = ((r.length, R.length) :: (wcB R).1, (wcB R).2) := by
  have := start_lt h hc
  unfold wcB
  conv => lhs; unfold wcF
  rw [if_neg (sp_start h), if_pos h, hc]
  dsimp only
  rw [wcF_more _ (R.length + 1) R (by omega) (by omega)]
theorem wcB_open {r : List UInt8} (h : startC r) (hc : cmtB (tlB (tlB r)) = none) : wcB r = ([], []) := by
  unfold wcB wcF
  rw [if_neg (sp_start h), if_pos h, hc]
theorem wcB_stop {r : List UInt8} (h : ¬ spB (hdB r) = true) (h2 : ¬ startC r) : wcB r = ([], r) := by
  unfold wcB wcF
  rw [if_neg h, if_neg h2]
theorem skB_cmt {r R : List UInt8} (h : startC r) (hc : cmtB (tlB (tlB r)) = some R) : skB r = ((r.length, R.length) :: (skB R).1, (skB R).2) := by
  have := start_lt h hc
  unfold skB
  conv => lhs; unfold skF
  rw [if_pos h, hc]
  dsimp only
  rw [skF_more _ (R.length + 1) R (by omega) (by omega)]
theorem skB_open {r : List UInt8} (h : startC r) (hc : cmtB (tlB (tlB r)) = none) : skB r = ([], []) := by
  unfold skB skF
  rw [if_pos h, hc]
theorem skB_stop {r : List UInt8} (h2 : ¬ startC r) : skB r = ([], r) := by
  unfold skB skF
  rw [if_neg h2]
theorem wcF_le : ∀ (f : Nat) (r : List UInt8), (wcF f r).2.length ≤ r.length
  | 0, r => Nat.le_refl _
  | f + 1, r => by
    unfold wcF
    by_cases h1 : spB (hdB r) = true
    · have := tlB_le r
      have := wcF_le f (tlB r)
      rw [if_pos h1]; omega
    · rw [if_neg h1]
      by_cases h2 : startC r
      · rw [if_pos h2]
        cases hc : cmtB (tlB (tlB r)) with
        | none => exact Nat.zero_le _
        | some R =>
          have := start_lt h2 hc
          have := wcF_le f R
          dsimp only; omega
      · rw [if_neg h2]; exact Nat.le_refl _
theorem wcB_le (r : List UInt8) : (wcB r).2.length ≤ r.length := wcF_le _ r
theorem skF_le : ∀ (f : Nat) (r : List UInt8), (skF f r).2.length ≤ r.length
  | 0, r => Nat.le_refl _
  | f + 1, r => by
    unfold skF
    by_cases h2 : startC r
    · rw [if_pos h2]
      cases hc : cmtB (tlB (tlB r)) with
      | none => exact Nat.zero_le _
      | some R =>
        have := start_lt h2 hc
        have := skF_le f R
        dsimp only; omega
    · rw [if_neg h2]; exact Nat.le_refl _
theorem skB_le (r : List UInt8) : (skB r).2.length ≤ r.length := skF_le _ r
theorem skF_stop : ∀ (f : Nat) (r : List UInt8), r.length < f → ¬ startC (skF f r).2
  | 0, _, h => absurd h (by omega)
  | f + 1, r, hf => by
    unfold skF
    by_cases h2 : startC r
    · rw [if_pos h2]
      cases hc : cmtB (tlB (tlB r)) with
      | none =>
        intro h
        have h1 : hdB [] = 47 := h.1
        rw [hdB_nil] at h1
        omega
      | some R =>
        have := start_lt h2 hc
        exact skF_stop f R (by omega)
    · rw [if_neg h2]; exact h2
theorem skB_none (r : List UInt8) : ¬ startC (skB r).2 := skF_stop _ r (by omega)

/-! ### a token -/
/-- next, ahead of neither a comment nor whitespace: its kind, what is left. -/
def tokB (r : List UInt8) : Nat × List UInt8 :=
  if hdB r = 34 ∨ hdB r = 39 then (if (strB (hdB r) (tlB r)).1 = true then 36 else 2, (strB (hdB r) (tlB r)).2)
  else if hdB r = 35 ∧ (ncB (hdB (tlB r)) = true ∨ vescB (tlB r) = true) then (28, nameR (tlB r))
  else if cntB r = true then ((numericB r).1, (numericB r).2.2)
  else if hdB r = 45 ∧ hdB (tlB r) = 45 ∧ hdB (tlB (tlB r)) = 62 then (4, tlB (tlB (tlB r)))
  else if wouldB r = true then ((identB r).1, (identB r).2.2)
  else if hdB r = 60 ∧ hdB (tlB r) = 33 ∧ hdB (tlB (tlB r)) = 45 ∧ hdB (tlB (tlB (tlB r))) = 45 then (5, tlB (tlB (tlB (tlB r))))
  else if hdB r = 64 ∧ wouldB (tlB r) = true then (1, nameR (tlB r))
  else (signK (hdB r).toNat, tlB r)
/-- next: the comments, the bytes from the token on, its kind (0: the end), what is left. -/
def nextB (r : List UInt8) : List (Nat × Nat) × List UInt8 × Nat × List UInt8 :=
  if (skB r).2 = [] then ((skB r).1, [], 0, [])
  else if spB (hdB (skB r).2) = true then ((skB r).1 ++ (wcB (tlB (skB r).2)).1, (skB r).2, 38, (wcB (tlB (skB r).2)).2)
  else ((skB r).1, (skB r).2, (tokB (skB r).2).1, (tokB (skB r).2).2)
theorem nextB_cmt {r R : List UInt8} (h : startC r) (hc : cmtB (tlB (tlB r)) = some R) : nextB r = ((r.length, R.length) :: (nextB R).1, (nextB R).2) := by
  unfold nextB
  rw [skB_cmt h hc]
  dsimp only
  split
  · rfl
  · split
    · rfl
    · rfl
theorem nextB_open {r : List UInt8} (h : startC r) (hc : cmtB (tlB (tlB r)) = none) : nextB r = ([], [], 0, []) := by
  unfold nextB
  rw [skB_open h hc]
  rfl
theorem nextB_nil : nextB [] = ([], [], 0, []) := by
  unfold nextB
  rw [skB_stop (by intro h; exact absurd h.1 (by decide))]
  rfl
theorem nextB_sp {r : List UInt8} (h : spB (hdB r) = true) : nextB r = ((wcB (tlB r)).1, r, 38, (wcB (tlB r)).2) := by
  unfold nextB
  rw [skB_stop (fun h2 => sp_start h2 h)]
  dsimp only
  rw [if_neg (sp_ne h), if_pos h, List.nil_append]
theorem nextB_tok {r : List UInt8} (h : r ≠ []) (h1 : ¬ spB (hdB r) = true) (h2 : ¬ startC r) : nextB r = ([], r, (tokB r).1, (tokB r).2) := by
  unfold nextB
  rw [skB_stop h2]
  dsimp only
  rw [if_neg h, if_neg h1]
/-- Comments by the bytes ahead of them. -/
def absC (z : Nat) (l : List (Nat × Nat)) : List (Nat × Nat) := l.map fun p => (z - p.1, z - p.2)
theorem absC_nil (z : Nat) : absC z [] = [] := rfl
theorem absC_cons (z : Nat) (p : Nat × Nat) (l : List (Nat × Nat)) : absC z (p :: l) = (z - p.1, z - p.2) :: absC z l := rfl
theorem absC_app (z : Nat) (a b : List (Nat × Nat)) : absC z (a ++ b) = absC z a ++ absC z b := by simp [absC]
end Go.Proofs.YtmgkccnfhkcncaaGreatDoor

namespace Go.Proofs.YtmgkccnfhkcncaaGreatDoor
open Go

/-! ### names -/
theorem nloopF_le : ∀ (f : Nat) (r : List UInt8), (nloopF f r).2.length ≤ r.length
  | 0, _ => Nat.le_refl _
  | f + 1, r => by
    unfold nloopF
    split
    · have := nloopF_le f (tlB r); have := tlB_le r; dsimp only; omega
    · split
      · have := nloopF_le f (escV r).2; have := escV_le r; have := tlB_le r; dsimp only; omega
      · exact Nat.le_refl _
theorem nloopB_le (r : List UInt8) : (nloopB r).2.length ≤ r.length := nloopF_le _ r
theorem nameR_fast (r : List UInt8) : (nameR r).length ≤ (fastB r).length := by
  unfold nameR
  split
  · have := nloopB_le (escV (fastB r)).2; have := escV_le (fastB r); have := tlB_le (fastB r); omega
  · omega
theorem nameR_le (r : List UInt8) : (nameR r).length ≤ r.length := by
  have := nameR_fast r; have := fastB_le r; omega
theorem nameR_lt {r : List UInt8} (h : ncB (hdB r) = true ∨ vescB r = true) : (nameR r).length < r.length := by
  by_cases h1 : ncB (hdB r) = true
  · have e : (fastB r).length ≤ (tlB r).length := by unfold fastB; rw [if_pos h1]; exact dropWhile_len _ _
    have := tlB_len (nc_ne h1)
    have := nameR_fast r
    omega
  · have h2 : vescB r = true := h.resolve_left h1
    have e : fastB r = r := by unfold fastB; rw [if_neg h1]
    have := nloopB_le (escV r).2; have := escV_le r; have := tlB_len (esc_ne h2)
    unfold nameR
    rw [e, if_pos h2]
    omega
theorem would_name {r : List UInt8} (h : wouldB r = true) : ncB (hdB r) = true ∨ vescB r = true := by
  unfold wouldB at h
  by_cases h1 : nsB (hdB r) = true
  · left; unfold ncB; rw [h1]; rfl
  · rw [if_neg h1] at h
    by_cases h2 : hdB r = 45
    · left; rw [h2]; decide
    · rw [if_neg h2] at h
      exact .inr h
/-- Bytes that stand for themselves. -/
theorem enc_short {c : Int} (h : ∀ x ∈ Lib.encodeRune c, x.toNat < 128) : (Lib.encodeRune c).length ≤ 1 := by
  by_cases h1 : 0 ≤ c ∧ c ≤ 127
  · unfold Lib.encodeRune
    rw [Lib.encodeRuneZ_one h1.1 h1.2]
    simp
  · exfalso
    have hz : ∃ z, (Lib.encodeRuneZ c).head? = some z ∧ 128 ≤ z ∧ z ≤ 255 := by
      unfold Lib.encodeRuneZ
      rw [if_neg h1]
      split
      · exact ⟨_, rfl, by omega, by omega⟩
      split
      · exact ⟨_, rfl, by omega, by omega⟩
      split
      · exact ⟨_, rfl, by omega, by omega⟩
      · exact ⟨_, rfl, by omega, by omega⟩
    obtain ⟨z, hz, hz1, hz2⟩ := hz
    have hm : z.toNat.toUInt8 ∈ Lib.encodeRune c := by
      unfold Lib.encodeRune
      exact List.mem_map.2 ⟨z, List.mem_of_mem_head? hz, rfl⟩
    have h2 := h _ hm
    have h3 : z.toNat.toUInt8.toNat = z.toNat := by
      show z.toNat % 256 = z.toNat
      omega
    omega
theorem nloopF_short : ∀ (f : Nat) (r : List UInt8), (∀ x ∈ (nloopF f r).1, x.toNat < 128) → (nloopF f r).1.length + (nloopF f r).2.length ≤ r.length
  | 0, r, _ => by simp [nloopF]
  | f + 1, r, h => by
    unfold nloopF at h ⊢
    by_cases h1 : ncB (hdB r) = true
    · rw [if_pos h1] at h ⊢
      dsimp only at h ⊢
      have e1 := enc_short (c := hdB r) (fun x hx => h x (List.mem_append_left _ hx))
      have e2 := nloopF_short f (tlB r) (fun x hx => h x (List.mem_append_right _ hx))
      have := tlB_len (nc_ne h1)
      rw [List.length_append]; omega
    · rw [if_neg h1] at h ⊢
      by_cases h2 : vescB r = true
      · rw [if_pos h2] at h ⊢
        dsimp only at h ⊢
        have e1 := enc_short (c := ((escV r).1 : Int)) (fun x hx => h x (List.mem_append_left _ hx))
        have e2 := nloopF_short f (escV r).2 (fun x hx => h x (List.mem_append_right _ hx))
        have := tlB_len (esc_ne h2)
        have := escV_le r
        rw [List.length_append]; omega
      · rw [if_neg h2]; simp
/-- A name that is written in single bytes took no fewer. -/
theorem nameW_short {r : List UInt8} (h : ∀ x ∈ nameW r, x.toNat < 128) : (nameW r).length + (nameR r).length ≤ r.length := by
  have h0 := fastB_le r
  unfold nameW nameR at *
  by_cases h1 : vescB (fastB r) = true
  · rw [if_pos h1] at h ⊢
    rw [if_pos h1]
    have e1 := enc_short (c := ((escV (fastB r)).1 : Int)) (fun x hx => h x (List.mem_append_right _ (List.mem_append_left _ hx)))
    have e2 := nloopF_short _ (escV (fastB r)).2 (fun x hx => h x (List.mem_append_right _ (List.mem_append_right _ hx)))
    have e2' : (nloopB (escV (fastB r)).2).1.length + (nloopB (escV (fastB r)).2).2.length ≤ (escV (fastB r)).2.length := e2
    have := tlB_len (esc_ne h1)
    have := escV_le (fastB r)
    rw [List.length_append, List.length_append, List.length_take]; omega
  · rw [if_neg h1] at h ⊢
    rw [if_neg h1, List.append_nil, List.length_take]; omega
theorem isUrl_low {l : List UInt8} (h : isUrlB l = true) : l.length = 3 ∧ ∀ x ∈ l, x.toNat < 128 := by
  unfold isUrlB at h
  split at h
  · rename_i a b c
    refine ⟨rfl, ?_⟩
    simp only [Bool.and_eq_true] at h
    obtain ⟨⟨h1, h2⟩, h3⟩ := h
    unfold isU at h1
    unfold isR at h2
    unfold isL at h3
    simp only [Bool.or_eq_true, beq_iff_eq] at h1 h2 h3
    intro x hx
    simp only [List.mem_cons, List.not_mem_nil, or_false] at hx
    rcases hx with rfl | rfl | rfl
    · omega
    · omega
    · omega
  · cases h

/-! ### numbers -/
theorem signB_le (r : List UInt8) : (signB r).length ≤ r.length := by
  unfold signB
  split
  · exact tlB_le r
  · exact Nat.le_refl _
theorem pointB_le (r : List UInt8) : (pointB r).length ≤ r.length := by
  unfold pointB
  split
  · have := dgsB_le (tlB r); have := tlB_le r; omega
  · exact Nat.le_refl _
theorem expB_le (r : List UInt8) : (expB r).length ≤ r.length := by
  unfold expB
  split
  · have := dgsB_le (signB (tlB r)); have := signB_le (tlB r); have := tlB_le r; omega
  · exact Nat.le_refl _
theorem numB_lt {r : List UInt8} (h : cntB r = true) : (numB r).length < r.length := by
  have e1 := expB_le (pointB (dgsB (signB r)))
  have e2 := pointB_le (dgsB (signB r))
  have e3 := dgsB_le (signB r)
  have e4 := signB_le r
  unfold numB
  by_cases h1 : dgB (hdB r) = true
  · have g : 48 ≤ hdB r ∧ hdB r ≤ 57 := of_decide_eq_true h1
    have e5 : signB r = r := by unfold signB; rw [if_neg (by omega)]
    have e6 := dgsB_go h1
    have e7 := dgsB_le (tlB r)
    have e8 : (tlB r).length < r.length := tl_lt rfl (by omega)
    rw [e5, e6] at e1 e2 ⊢
    omega
  · unfold cntB at h
    rw [if_neg h1] at h
    by_cases h2 : hdB r = 46
    · have e5 : signB r = r := by unfold signB; rw [if_neg (by omega)]
      have e6 : dgsB r = r := dgsB_stop (Bool.eq_false_iff.2 h1)
      have e7 := dgsB_le (tlB r)
      have e8 : (tlB r).length < r.length := tl_lt rfl (by omega)
      have e9 : pointB r = dgsB (tlB r) := by unfold pointB; rw [if_pos h2]
      rw [e5, e6, e9] at e1 ⊢
      omega
    · rw [if_neg h2] at h
      by_cases h3 : hdB r = 43 ∨ hdB r = 45
      · have e5 : signB r = tlB r := by unfold signB; rw [if_pos h3]
        have e8 : (tlB r).length < r.length := tl_lt rfl (by omega)
        rw [e5] at e1 e2 e3 ⊢
        omega
      · rw [if_neg h3] at h; cases h
theorem numericB_lt {r : List UInt8} (h : cntB r = true) : (numericB r).2.2.length < r.length := by
  have h1 := numB_lt h
  unfold numericB
  split
  · have := nameR_le (numB r); dsimp only; omega
  · split
    · have := tlB_le (numB r); dsimp only; omega
    · exact h1
theorem numericB_kind (r : List UInt8) : (numericB r).1 = 26 ∨ (numericB r).1 = 34 ∨ (numericB r).1 = 30 := by
  unfold numericB
  split
  · exact .inl rfl
  · split
    · exact .inr (.inl rfl)
    · exact .inr (.inr rfl)

/-! ### strings, addresses -/
theorem strB_len (q : Int) (r : List UInt8) : (strB q r).2.length ≤ r.length ∧ ((strB q r).1 = true → (strB q r).2.length < r.length) := by
  refine loopB_ind (strStep_lt q) (fun x y => y.2.length ≤ x.length ∧ (y.1 = true → y.2.length < x.length)) ?_ ?_ _ r (Nat.le_refl _)
  · intro x a h
    unfold strStep at h
    split at h
    · split at h <;> cases h
    · split at h
      · obtain rfl := Sum.inl.inj h
        exact ⟨Nat.le_refl _, fun h => by cases h⟩
      · rename_i h2
        split at h
        · obtain rfl := Sum.inl.inj h
          exact ⟨tlB_le x, fun _ => tl_lt rfl (fun e => h2 (.inl e))⟩
        · cases h
  · intro x y a h hq
    have := strStep_lt q x y h
    exact ⟨by omega, fun e => by have := hq.2 e; omega⟩
theorem badB_le (r : List UInt8) : (badB r).length ≤ r.length := by
  refine loopB_ind badStep_lt (fun x y => y.length ≤ x.length) ?_ ?_ _ r (Nat.le_refl _)
  · intro x a h
    unfold badStep at h
    split at h
    · obtain rfl := Sum.inl.inj h
      exact tlB_le x
    · split at h <;> cases h
  · intro x y a h hq
    have := badStep_lt x y h
    omega
theorem urlB_le (r : List UInt8) : (∀ t x X, urlB r = (some (t, x), X) → x.length ≤ r.length) ∧ (∀ X, urlB r = (none, X) → X.length ≤ r.length) := by
  refine loopB_ind urlStep_lt (fun x y => (∀ t z X, y = (some (t, z), X) → z.length ≤ x.length) ∧ (∀ X, y = (none, X) → X.length ≤ x.length)) ?_ ?_ _ r (Nat.le_refl _)
  · intro x a h
    have h0 := tlB_le x
    have h1 := spcB_le (tlB x)
    have h2 := tlB_le (spcB (tlB x))
    have key : (∃ t z, a = (some (t, z), []) ∧ z.length ≤ x.length) ∨ (∃ X, a = (none, X) ∧ X.length ≤ x.length) := by
      unfold urlStep at h
      split at h
      · obtain rfl := Sum.inl.inj h
        exact .inl ⟨_, _, rfl, h0⟩
      split at h
      · obtain rfl := Sum.inl.inj h
        exact .inl ⟨_, _, rfl, Nat.le_refl _⟩
      split at h
      · split at h
        · obtain rfl := Sum.inl.inj h
          exact .inl ⟨_, _, rfl, by omega⟩
        split at h
        · obtain rfl := Sum.inl.inj h
          exact .inl ⟨_, _, rfl, by omega⟩
        · obtain rfl := Sum.inl.inj h
          exact .inr ⟨_, rfl, by omega⟩
      split at h
      · obtain rfl := Sum.inl.inj h
        exact .inr ⟨_, rfl, Nat.le_refl _⟩
      split at h
      · split at h
        · cases h
        · obtain rfl := Sum.inl.inj h
          exact .inr ⟨_, rfl, Nat.le_refl _⟩
      split at h
      · obtain rfl := Sum.inl.inj h
        exact .inr ⟨_, rfl, Nat.le_refl _⟩
      · cases h
    rcases key with ⟨t, z, rfl, hz⟩ | ⟨X, rfl, hz⟩
    · refine ⟨fun t' z' X' e => ?_, fun X' e => by cases e⟩
      cases e; exact hz
    · refine ⟨fun t' z' X' e => (by cases e), fun X' e => ?_⟩
      cases e; exact hz
  · intro x y a h hq
    have := urlStep_lt x y h
    exact ⟨fun t z X e => by have := hq.1 t z X e; omega, fun X e => by have := hq.2 X e; omega⟩
theorem addrB_le (r : List UInt8) : (addrB r).2.2.length ≤ r.length := by
  obtain ⟨h1, h2⟩ := urlB_le r
  unfold addrB
  cases hu : urlB r with
  | mk o X =>
    cases o with
    | none =>
      have := h2 X hu
      have := badB_le X
      dsimp only; omega
    | some p =>
      obtain ⟨t, x⟩ := p
      exact h1 t x X hu
theorem addrB_kind (r : List UInt8) : (addrB r).1 = 37 ∨ (addrB r).1 = 3 := by
  unfold addrB
  cases hu : urlB r with
  | mk o X =>
    cases o with
    | none => exact .inr rfl
    | some p => exact .inl rfl
theorem identB_le (r : List UInt8) : (identB r).2.2.length ≤ (nameR r).length := by
  unfold identB
  have h0 := tlB_le (nameR r)
  split
  · split
    · have := addrB_le (spcB (tlB (nameR r))); have := spcB_le (tlB (nameR r)); omega
    · exact h0
  · exact Nat.le_refl _
theorem identB_kind (r : List UInt8) : (identB r).1 = 37 ∨ (identB r).1 = 3 ∨ (identB r).1 = 27 ∨ (identB r).1 = 29 := by
  unfold identB
  split
  · split
    · rcases addrB_kind (spcB (tlB (nameR r))) with h | h
      · exact .inl h
      · exact .inr (.inl h)
    · exact .inr (.inr (.inl rfl))
  · exact .inr (.inr (.inr rfl))
/-- An address's bytes: its name is three bytes at least, a bracket follows. -/
theorem identB_url {r : List UInt8} (h : (identB r).1 = 37) : hdB (nameR r) = 40 ∧ (nameR r).length + 3 ≤ r.length ∧ (identB r).2.2.length ≤ (tlB (nameR r)).length := by
  unfold identB at h ⊢
  by_cases h1 : hdB (nameR r) = 40
  · rw [if_pos h1] at h ⊢
    by_cases h2 : isUrlB (nameW r) = true ∧ hdB (spcB (tlB (nameR r))) ≠ 34 ∧ hdB (spcB (tlB (nameR r))) ≠ 39
    · rw [if_pos h2] at h ⊢
      obtain ⟨h3, h4⟩ := isUrl_low h2.1
      have h5 := nameW_short h4
      have := addrB_le (spcB (tlB (nameR r)))
      have := spcB_le (tlB (nameR r))
      exact ⟨h1, by omega, by omega⟩
    · rw [if_neg h2] at h
      dsimp only at h; omega
  · rw [if_neg h1] at h
    dsimp only at h; omega

/-! ### what is left is the end of what was there -/
theorem hexRunB_suf : ∀ (n v : Nat) (l : List UInt8), (hexRunB n v l).2 <:+ l
  | 0, _, l => List.suffix_refl _
  | n + 1, v, l => by
    unfold hexRunB
    by_cases h : l = []
    · rw [if_pos h]; exact List.suffix_refl _
    · rw [if_neg h]
      split
      · exact (hexRunB_suf n _ _).trans (List.drop_suffix _ _)
      · exact List.suffix_refl _
theorem dropWsB_suf (l : List UInt8) : dropWsB l <:+ l := by
  unfold dropWsB
  split
  · exact List.drop_suffix _ _
  · exact List.suffix_refl _
theorem escV_suf (r : List UInt8) : (escV r).2 <:+ r := by
  unfold escV
  split
  · exact List.nil_suffix
  · split
    · exact ((dropWsB_suf _).trans (hexRunB_suf _ _ _)).trans ((tlB_suf _).trans (tlB_suf _))
    · exact (tlB_suf _).trans (tlB_suf _)
theorem nloopF_suf : ∀ (f : Nat) (r : List UInt8), (nloopF f r).2 <:+ r
  | 0, _ => List.suffix_refl _
  | f + 1, r => by
    unfold nloopF
    split
    · exact (nloopF_suf f (tlB r)).trans (tlB_suf r)
    · split
      · exact (nloopF_suf f (escV r).2).trans (escV_suf r)
      · exact List.suffix_refl _
theorem fastB_suf (r : List UInt8) : fastB r <:+ r := by
  unfold fastB
  split
  · exact (List.dropWhile_suffix _).trans (tlB_suf r)
  · exact List.suffix_refl _
theorem nameR_suf (r : List UInt8) : nameR r <:+ r := by
  unfold nameR
  split
  · exact (nloopF_suf _ _).trans ((escV_suf _).trans (fastB_suf r))
  · exact fastB_suf r
/-- The byte that is there is there in the longer text too. -/
theorem suf_get {a r : List UInt8} (h : a <:+ r) (i : Nat) : r[r.length - a.length + i]? = a[i]? := by
  obtain ⟨p, rfl⟩ := h
  rw [List.length_append, show p.length + a.length - a.length + i = p.length + i by omega, List.getElem?_append_right (by omega)]
  congr 1
  omega

/-! ### tokens -/
theorem tokB_lt {r : List UInt8} (h : r ≠ []) : (tokB r).2.length < r.length := by
  have h0 := tlB_len h
  have h1 := tlB_le (tlB r)
  have h2 := tlB_le (tlB (tlB r))
  have h3 := tlB_le (tlB (tlB (tlB r)))
  have h4 := nameR_le (tlB r)
  unfold tokB
  split
  · have := (strB_len (hdB r) (tlB r)).1; dsimp only; omega
  split
  · dsimp only; omega
  split
  · rename_i hc; exact numericB_lt hc
  split
  · dsimp only; omega
  split
  · rename_i hw
    have := nameR_lt (would_name hw)
    have := identB_le r
    dsimp only; omega
  split
  · dsimp only; omega
  split
  · dsimp only; omega
  · exact h0
theorem ite_pos' {p : Prop} [Decidable p] {a b : Nat} {Q : Nat → Prop} (h1 : Q a) (h2 : Q b) : Q (if p then a else b) := by
  by_cases h : p
  · rw [if_pos h]; exact h1
  · rw [if_neg h]; exact h2
theorem signK_range (c : Nat) : (1 ≤ signK c ∧ signK c ≤ 25) ∨ (31 ≤ signK c ∧ signK c ≤ 33) ∨ signK c = 35 := by
  unfold signK
  repeat (refine ite_pos' (Q := fun n => (1 ≤ n ∧ n ≤ 25) ∨ (31 ≤ n ∧ n ≤ 33) ∨ n = 35) (by decide) ?_)
  decide
theorem signK_notDec (c : Nat) : signK c ≠ 1 ∧ signK c ≠ 28 ∧ signK c ≠ 27 ∧ signK c ≠ 36 ∧ signK c ≠ 37 := by
  unfold signK
  repeat (refine ite_pos' (Q := fun n => n ≠ 1 ∧ n ≠ 28 ∧ n ≠ 27 ∧ n ≠ 36 ∧ n ≠ 37) (by decide) ?_)
  decide
theorem tokB_kind (r : List UInt8) : 1 ≤ (tokB r).1 ∧ (tokB r).1 ≤ 37 := by
  unfold tokB
  split
  · exact ite_pos' (Q := fun n => 1 ≤ n ∧ n ≤ 37) (by decide) (by decide)
  split
  · exact ⟨by dsimp only; omega, by dsimp only; omega⟩
  split
  · rcases numericB_kind r with h | h | h <;> (rw [h]; decide)
  split
  · exact ⟨by dsimp only; omega, by dsimp only; omega⟩
  split
  · rcases identB_kind r with h | h | h | h <;> (rw [h]; decide)
  split
  · exact ⟨by dsimp only; omega, by dsimp only; omega⟩
  split
  · exact ⟨by dsimp only; omega, by dsimp only; omega⟩
  · have := signK_range (hdB r).toNat
    dsimp only; omega
/-- How long a string and an address are. -/
theorem tokB_long {r : List UInt8} (h : r ≠ []) : ((tokB r).1 = 36 → (tokB r).2.length + 2 ≤ r.length) ∧
    ((tokB r).1 = 37 → ∃ n, hdB n = 40 ∧ n.length + 3 ≤ r.length ∧ (tokB r).2.length ≤ (tlB n).length ∧ n = nameR r) := by
  have h0 := tlB_len h
  unfold tokB
  split
  · by_cases hs : (strB (hdB r) (tlB r)).1 = true
    · rw [if_pos hs]
      refine ⟨fun _ => ?_, fun e => by dsimp only at e; omega⟩
      have := (strB_len (hdB r) (tlB r)).2 hs
      dsimp only; omega
    · rw [if_neg hs]
      exact ⟨fun e => by dsimp only at e; omega, fun e => by dsimp only at e; omega⟩
  split
  · exact ⟨fun e => by dsimp only at e; omega, fun e => by dsimp only at e; omega⟩
  split
  · rcases numericB_kind r with h | h | h <;> (rw [h]; exact ⟨fun e => by omega, fun e => by omega⟩)
  split
  · exact ⟨fun e => by dsimp only at e; omega, fun e => by dsimp only at e; omega⟩
  split
  · refine ⟨fun e => ?_, fun e => ?_⟩
    · rcases identB_kind r with h | h | h | h <;> (dsimp only at e; rw [h] at e; exact absurd e (by decide))
    · obtain ⟨g1, g2, g3⟩ := identB_url e
      exact ⟨nameR r, g1, g2, g3, rfl⟩
  split
  · exact ⟨fun e => by dsimp only at e; omega, fun e => by dsimp only at e; omega⟩
  split
  · exact ⟨fun e => by dsimp only at e; omega, fun e => by dsimp only at e; omega⟩
  · obtain ⟨-, -, -, a, b⟩ := signK_notDec (hdB r).toNat
    exact ⟨fun e => absurd e a, fun e => absurd e b⟩
end Go.Proofs.YtmgkccnfhkcncaaGreatDoor

namespace Go.Proofs.YtmgkccnfhkcncaaGreatDoor
open Go

/-- A token: its kind, unit, flags, its bytes. -/
structure Tq where
  kd : Nat
  uo : Nat
  fl : Nat
  b : Nat
  e : Nat
/-- All tokens and comments from the bytes r on. -/
def RunB (s : ByteArray) : List Tq → List (Nat × Nat) → List UInt8 → Prop
  | [], cs, r => (nextB r).2.2.1 = 0 ∧ cs = absC s.size (nextB r).1
  | t :: ts, cs, r => ∃ cs', t.kd = (nextB r).2.2.1 ∧ t.kd ≠ 0 ∧ AtB s t.b (nextB r).2.1 ∧ AtB s t.e (nextB r).2.2.2 ∧ t.uo ≤ 65535 ∧ t.fl ≤ 2 ∧ RunB s ts cs' (nextB r).2.2.2 ∧ cs = absC s.size (nextB r).1 ++ cs'

/-! ### lists of comments -/
/-- Comments, each between b and e. -/
def InC (b e : Nat) (l : List (Nat × Nat)) : Prop := ∀ c ∈ l, b ≤ c.1 ∧ c.1 < c.2 ∧ c.2 ≤ e
theorem wcF_in (z : Nat) : ∀ (f : Nat) (r : List UInt8), r.length ≤ z → InC (z - r.length) (z - (wcF f r).2.length) (absC z (wcF f r).1)
  | 0, r, _ => by unfold wcF; intro c hc; cases hc
  | f + 1, r, hz => by
    unfold wcF
    by_cases h1 : spB (hdB r) = true
    · rw [if_pos h1]
      have h0 := tlB_len (sp_ne h1)
      intro c hc
      have := wcF_in z f (tlB r) (by omega) c hc
      omega
    · rw [if_neg h1]
      by_cases h2 : startC r
      · rw [if_pos h2]
        cases hc : cmtB (tlB (tlB r)) with
        | none => intro c hc; cases hc
        | some R =>
          have h3 := start_lt h2 hc
          have h4 := wcF_le f R
          dsimp only
          rw [absC_cons]
          intro c hm
          rcases List.mem_cons.1 hm with rfl | hm
          · dsimp only; omega
          · have := wcF_in z f R (by omega) c hm
            omega
      · rw [if_neg h2]; intro c hc; cases hc
theorem skF_in (z : Nat) : ∀ (f : Nat) (r : List UInt8), r.length ≤ z → ∀ c ∈ absC z (skF f r).1, z - r.length ≤ c.1
  | 0, r, _ => by unfold skF; intro c hc; cases hc
  | f + 1, r, hz => by
    unfold skF
    by_cases h2 : startC r
    · rw [if_pos h2]
      cases hc : cmtB (tlB (tlB r)) with
      | none => intro c hc; cases hc
      | some R =>
        have h3 := start_lt h2 hc
        dsimp only
        rw [absC_cons]
        intro c hm
        rcases List.mem_cons.1 hm with rfl | hm
        · exact Nat.le_refl _
        · have := skF_in z f R (by omega) c hm
          omega
    · rw [if_neg h2]; intro c hc; cases hc

/-! ### how tokens and comments follow one another -/
/-- They follow one another from byte at to byte F, behind a token of kind pk. -/
def Fol (z F : Nat) : Nat → Nat → List Tq → List (Nat × Nat) → Nat → Prop
  | 0, _, ts, cs, at_ => ts = [] ∧ cs = [] ∧ at_ = F
  | n + 1, pk, ts, cs, at_ =>
    (∃ c cs', cs = c :: cs' ∧ (ts = [] ∨ ∃ t ts', ts = t :: ts' ∧ c.1 < t.b) ∧ c.1 < c.2 ∧ c.2 ≤ z ∧ c.1 ≤ at_ ∧ (c.1 = at_ ∨ (c.2 ≤ at_ ∧ pk = 38)) ∧ Fol z F n pk ts cs' (max at_ c.2)) ∨
    (∃ t ts', ts = t :: ts' ∧ (cs = [] ∨ ∃ c cs', cs = c :: cs' ∧ t.b ≤ c.1) ∧ t.b = at_ ∧ at_ < t.e ∧ t.e ≤ z ∧ Fol z F n t.kd ts' cs t.e)
/-- The first token does not begin ahead of a byte. -/
def Ahead (k : Nat) (ts : List Tq) : Prop := ∀ t ts', ts = t :: ts' → k ≤ t.b
theorem ahead_or {k : Nat} {ts : List Tq} (h : Ahead k ts) {a : Nat} (ha : a < k) : ts = [] ∨ ∃ t ts', ts = t :: ts' ∧ a < t.b := by
  cases ts with
  | nil => exact .inl rfl
  | cons t ts => exact .inr ⟨t, ts, rfl, by have := h t ts rfl; omega⟩
/-- Comments within the whitespace behind which we stand. -/
theorem fol_in {z F at_ : Nat} {ts : List Tq} (hz : at_ ≤ z) (hA : Ahead at_ ts) : ∀ (l cs : List (Nat × Nat)) (n : Nat), InC 0 at_ l → Fol z F n 38 ts cs at_ → Fol z F (n + l.length) 38 ts (l ++ cs) at_
  | [], _, _, _, h => h
  | c :: l, cs, n, hi, h => by
    obtain ⟨-, h2, h3⟩ := hi c (by simp)
    refine .inl ⟨c, l ++ cs, rfl, ahead_or hA (by omega), h2, by omega, by omega, .inr ⟨h3, rfl⟩, ?_⟩
    rw [Nat.max_eq_left h3]
    exact fol_in hz hA l cs n (fun x hx => hi x (by simp [hx])) h
/-- Comments ahead of a token. -/
theorem skF_fol (s : ByteArray) : ∀ (f : Nat) (r : List UInt8) (k : Nat), r.length < f → AtB s k r →
    ∃ k' y, AtB s k' y ∧ k ≤ k' ∧ (y = (skF f r).2 ∨ ((skF f r).2 = [] ∧ startC y ∧ cmtB (tlB (tlB y)) = none)) ∧
      (∀ (F pk : Nat) (ts : List Tq) (cs : List (Nat × Nat)), Ahead k' ts → ∀ n, Fol s.size F n pk ts cs k' → Fol s.size F (n + (skF f r).1.length) pk ts (absC s.size (skF f r).1 ++ cs) k)
  | 0, _, _, h, _ => absurd h (by omega)
  | f + 1, r, k, hf, hA => by
    unfold skF
    by_cases h2 : startC r
    · rw [if_pos h2]
      cases hc : cmtB (tlB (tlB r)) with
      | none => exact ⟨k, r, hA, Nat.le_refl _, .inr ⟨rfl, h2, hc⟩, fun _ _ _ _ _ n h => h⟩
      | some R =>
        have h3 := start_lt h2 hc
        have hz := hA.size
        have hm := cmt_drop hc
        have hAR : AtB s (k + (r.length - R.length)) R := by
          have := hA.drop' (r.length - R.length) (by omega)
          rwa [← hm] at this
        obtain ⟨k', y, g1, g2, g3, g4⟩ := skF_fol s f R _ (by omega) hAR
        refine ⟨k', y, g1, by omega, g3, fun F pk ts cs hah n h => ?_⟩
        have g5 := g4 F pk ts cs hah n h
        dsimp only
        rw [absC_cons]
        have e1 : s.size - r.length = k := by omega
        have e2 : s.size - R.length = k + (r.length - R.length) := by omega
        rw [e1, e2]
        refine .inl ⟨_, _, rfl, ahead_or hah (by dsimp only; omega), by dsimp only; omega, by dsimp only; omega, Nat.le_refl _, .inl rfl, ?_⟩
        rw [Nat.max_eq_right (by dsimp only; omega)]
        exact g5
    · rw [if_neg h2]
      exact ⟨k, r, hA, Nat.le_refl _, .inl rfl, fun _ _ _ _ _ n h => h⟩

/-! ### the law -/
theorem nextB_in (z : Nat) (r : List UInt8) (hz : r.length ≤ z) : (∀ c ∈ absC z (nextB r).1, z - r.length ≤ c.1) ∧ (nextB r).2.1.length ≤ r.length ∧ (nextB r).2.2.2.length ≤ (nextB r).2.1.length := by
  have h1 := skB_le r
  have h2 := skF_in z (r.length + 1) r hz
  unfold nextB
  by_cases h : (skB r).2 = []
  · rw [if_pos h]
    exact ⟨h2, Nat.zero_le _, Nat.le_refl _⟩
  · rw [if_neg h]
    by_cases h3 : spB (hdB (skB r).2) = true
    · rw [if_pos h3]
      have h4 := tlB_len h
      have h5 := wcB_le (tlB (skB r).2)
      refine ⟨fun c hc => ?_, h1, by dsimp only; omega⟩
      dsimp only at hc
      rw [absC_app] at hc
      rcases List.mem_append.1 hc with hc | hc
      · exact h2 c hc
      · have := wcF_in z _ (tlB (skB r).2) (by omega) c hc
        omega
    · rw [if_neg h3]
      have := tokB_lt h
      exact ⟨h2, h1, by dsimp only; omega⟩
theorem run_ge (s : ByteArray) : ∀ (ts : List Tq) (cs : List (Nat × Nat)) (r : List UInt8), r.length ≤ s.size → RunB s ts cs r → ∀ c ∈ cs, s.size - r.length ≤ c.1
  | [], cs, r, hz, h => by
    rw [h.2]
    exact (nextB_in s.size r hz).1
  | t :: ts, cs, r, hz, h => by
    obtain ⟨cs', -, -, -, -, -, -, h1, rfl⟩ := h
    obtain ⟨h2, h3, h4⟩ := nextB_in s.size r hz
    intro c hc
    rcases List.mem_append.1 hc with hc | hc
    · exact h2 c hc
    · have := run_ge s ts cs' _ (by omega) h1 c hc
      omega
theorem run_ahead {s : ByteArray} {ts : List Tq} {cs : List (Nat × Nat)} {r : List UInt8} {k : Nat} (hA : AtB s k r) (h : RunB s ts cs r) : Ahead k ts := by
  intro t ts' e
  subst e
  obtain ⟨cs', -, -, h1, -⟩ := h
  have h2 := hA.size
  have h3 := h1.size
  have h4 := (nextB_in s.size r (by omega)).2.1
  omega
theorem first_or {k : Nat} {cs : List (Nat × Nat)} (h : ∀ c ∈ cs, k ≤ c.1) : cs = [] ∨ ∃ c cs', cs = c :: cs' ∧ k ≤ c.1 := by
  cases cs with
  | nil => exact .inl rfl
  | cons c cs => exact .inr ⟨c, cs, rfl, h c (by simp)⟩
/-- A comment that does not end, or nothing. -/
def OpenC (y : List UInt8) : Prop := y = [] ∨ (startC y ∧ cmtB (tlB (tlB y)) = none)
/-- The comments within the token. -/
def wcIn (r : List UInt8) : List (Nat × Nat) := if spB (hdB (skB r).2) = true then (wcB (tlB (skB r).2)).1 else []
theorem nextB_fst (r : List UInt8) (h : (skB r).2 ≠ []) : (nextB r).1 = (skB r).1 ++ wcIn r := by
  unfold nextB wcIn
  rw [if_neg h]
  split
  · rfl
  · exact (List.append_nil _).symm
theorem nextB_ws (r : List UInt8) (h : (skB r).2 ≠ []) : (nextB r).2.2.1 = 38 ∨ wcIn r = [] := by
  unfold nextB wcIn
  rw [if_neg h]
  split
  · exact .inl rfl
  · exact .inr rfl
theorem nextB_lt (r : List UInt8) (h : (skB r).2 ≠ []) : (nextB r).2.2.2.length < (skB r).2.length := by
  unfold nextB
  rw [if_neg h]
  split
  · have := tlB_len h
    have := wcB_le (tlB (skB r).2)
    dsimp only; omega
  · exact tokB_lt h
theorem wcIn_in (z : Nat) (r : List UInt8) (hz : r.length ≤ z) (h : (skB r).2 ≠ []) : InC (z - (skB r).2.length) (z - (nextB r).2.2.2.length) (absC z (wcIn r)) := by
  unfold nextB wcIn
  rw [if_neg h]
  split
  · have h1 := tlB_len h
    have h2 := skB_le r
    intro c hc
    have := wcF_in z _ (tlB (skB r).2) (by omega) c hc
    show z - (skB r).2.length ≤ c.1 ∧ c.1 < c.2 ∧ c.2 ≤ z - (wcB (tlB (skB r).2)).2.length
    have e : (wcB (tlB (skB r).2)).2.length = (wcF ((tlB (skB r).2).length + 1) (tlB (skB r).2)).2.length := rfl
    omega
  · intro c hc; cases hc
theorem skF_end (s : ByteArray) (pk : Nat) (r : List UInt8) (k : Nat) (hA : AtB s k r) (h : (skB r).2 = []) : ∃ k' y, AtB s k' y ∧ k ≤ k' ∧ OpenC y ∧ ∃ n, Fol s.size k' n pk [] (absC s.size (skB r).1) k := by
  obtain ⟨k', y, g1, g2, g3, g4⟩ := skF_fol s (r.length + 1) r k (by omega) hA
  refine ⟨k', y, g1, g2, ?_, 0 + (skB r).1.length, ?_⟩
  · rcases g3 with g3 | g3
    · exact .inl (g3.trans h)
    · exact .inr g3.2
  · have := g4 k' pk [] [] (fun t ts' e => by cases e) 0 ⟨rfl, rfl, rfl⟩
    rw [List.append_nil] at this
    exact this
theorem run_fol (s : ByteArray) : ∀ (ts : List Tq) (cs : List (Nat × Nat)) (r : List UInt8) (k pk : Nat), AtB s k r → RunB s ts cs r → ∃ F y n, Fol s.size F n pk ts cs k ∧ AtB s F y ∧ OpenC y
  | [], cs, r, k, pk, hA, h => by
    obtain ⟨h1, rfl⟩ := h
    have h2 : (skB r).2 = [] ∧ (nextB r).1 = (skB r).1 := by
      unfold nextB at h1 ⊢
      by_cases h : (skB r).2 = []
      · rw [if_pos h]; exact ⟨h, rfl⟩
      · rw [if_neg h] at h1
        by_cases h3 : spB (hdB (skB r).2) = true
        · rw [if_pos h3] at h1; dsimp only at h1; omega
        · rw [if_neg h3] at h1
          have := (tokB_kind (skB r).2).1
          dsimp only at h1; omega
    rw [h2.2]
    obtain ⟨k', y, g1, g2, g3, g4⟩ : ∃ k' y, AtB s k' y ∧ k ≤ k' ∧ OpenC y ∧ ∃ n, Fol s.size k' n pk [] (absC s.size (skB r).1) k := skF_end s pk r k hA h2.1
    obtain ⟨n, hn⟩ := g4
    exact ⟨k', y, n, hn, g1, g3⟩
  | t :: ts, cs, r, k, pk, hA, h => by
    obtain ⟨cs', h1, h2, h3, h4, -, -, h5, rfl⟩ := h
    have hz := hA.size
    obtain ⟨F, y, n, i1, i2, i3⟩ := run_fol s ts cs' _ t.e t.kd h4 h5
    refine ⟨F, y, ?_⟩
    have hah := run_ahead h4 h5
    have hge := run_ge s ts cs' _ (by have := h4.size; omega) h5
    have hb := h3.size
    have he := h4.size
    have hne : (skB r).2 ≠ [] := by
      intro h
      unfold nextB at h1
      rw [if_pos h] at h1
      exact h2 h1
    have hx : (nextB r).2.1 = (skB r).2 := by
      unfold nextB
      rw [if_neg hne]
      split <;> rfl
    obtain ⟨k', y', g1, g2, g3, g4⟩ := skF_fol s (r.length + 1) r k (by omega) hA
    have hy : y' = (skB r).2 := by
      rcases g3 with g3 | g3
      · exact g3
      · exact absurd g3.1 hne
    rw [hx] at h3 hb
    subst hy
    obtain rfl := g1.unique h3
    have hap : (nextB r).1 = (skB r).1 ++ wcIn r := nextB_fst r hne
    rw [hap, absC_app, List.append_assoc]
    have htb : Ahead t.b (t :: ts) := by
      intro t' ts' e
      obtain ⟨rfl, -⟩ := List.cons.inj e
      exact Nat.le_refl _
    have hlt : (nextB r).2.2.2.length < (skB r).2.length := nextB_lt r hne
    -- behind the token
    have hin : t.kd = 38 ∨ wcIn r = [] := by rw [h1]; exact nextB_ws r hne
    have hwi : InC t.b t.e (absC s.size (wcIn r)) := by
      have := wcIn_in s.size r (by omega) hne
      intro c hc
      have := this c hc
      omega
    have hfol : Fol s.size F (n + (absC s.size (wcIn r)).length) t.kd ts (absC s.size (wcIn r) ++ cs') t.e := by
      rcases hin with hin | hin
      · rw [hin] at i1 ⊢
        exact fol_in (by omega) hah _ cs' n (fun c hc => by have := hwi c hc; omega) i1
      · rw [hin]; exact i1
    refine ⟨_, g4 F pk (t :: ts) (absC s.size (wcIn r) ++ cs') htb (n + (absC s.size (wcIn r)).length + 1) (Or.inr ⟨t, ts, rfl, first_or (fun c hc => ?_), rfl, by omega, by omega, hfol⟩), i2, i3⟩
    rcases List.mem_append.1 hc with hc | hc
    · have := hwi c hc; omega
    · have := hge c hc; omega
/-- A token is there. -/
theorem nextB_more {r : List UInt8} (h : (nextB r).2.2.1 ≠ 0) : (skB r).2 ≠ [] := by
  intro h2
  unfold nextB at h
  rw [if_pos h2] at h
  exact h rfl
theorem nextB_shorter {r : List UInt8} (h : (nextB r).2.2.1 ≠ 0) : (nextB r).2.2.2.length < r.length := by
  have h1 := nextB_lt r (nextB_more h)
  have h2 := skB_le r
  omega
end Go.Proofs.YtmgkccnfhkcncaaGreatDoor

namespace Go.Proofs.YtmgkccnfhkcncaaGreatDoor
open Go

theorem cntB_no {r : List UInt8} (h1 : dgB (hdB r) = false) (h2 : hdB r ≠ 46) (h3 : hdB r ≠ 43) (h4 : hdB r ≠ 45) : cntB r = false := by
  unfold cntB
  rw [if_neg (by rw [h1]; decide), if_neg h2, if_neg (fun h => h.elim h3 h4)]
theorem cntB_hd {r : List UInt8} (h : cntB r = true) : dgB (hdB r) = true ∨ hdB r = 46 ∨ hdB r = 43 ∨ hdB r = 45 := by
  by_cases h1 : dgB (hdB r) = true
  · exact .inl h1
  · by_cases h2 : hdB r = 46
    · exact .inr (.inl h2)
    · by_cases h3 : hdB r = 43
      · exact .inr (.inr (.inl h3))
      · by_cases h4 : hdB r = 45
        · exact .inr (.inr (.inr h4))
        · rw [cntB_no (Bool.eq_false_iff.2 h1) h2 h3 h4] at h; cases h
theorem wouldB_no {r : List UInt8} (h1 : nsB (hdB r) = false) (h2 : hdB r ≠ 45) (h3 : hdB r ≠ 92) : wouldB r = false := by
  unfold wouldB
  rw [if_neg (by rw [h1]; decide), if_neg h2]
  unfold vescB
  rw [decide_eq_false h3]; rfl
theorem wouldB_ns {r : List UInt8} (h : nsB (hdB r) = true) : wouldB r = true := by unfold wouldB; rw [if_pos h]
theorem wouldB_bs {r : List UInt8} (h : hdB r = 92) : wouldB r = vescB r := by
  unfold wouldB
  rw [h, if_neg (by decide), if_neg (by decide)]
theorem tokB_str {r : List UInt8} (h : hdB r = 34 ∨ hdB r = 39) : tokB r = (if (strB (hdB r) (tlB r)).1 = true then 36 else 2, (strB (hdB r) (tlB r)).2) := by
  unfold tokB; rw [if_pos h]
theorem tokB_hash {r : List UInt8} (h : hdB r = 35) (h2 : ncB (hdB (tlB r)) = true ∨ vescB (tlB r) = true) : tokB r = (28, nameR (tlB r)) := by
  unfold tokB; rw [if_neg (by omega), if_pos ⟨h, h2⟩]
/-- A token by its last case. -/
theorem tokB_last {r : List UInt8} {c : Nat} (h : hdB r = (c : Int)) (h1 : c ≠ 34) (h2 : c ≠ 39) (h3 : c = 35 → ¬ (ncB (hdB (tlB r)) = true ∨ vescB (tlB r) = true)) (h4 : cntB r = false) (h5 : ¬ (hdB r = 45 ∧ hdB (tlB r) = 45 ∧ hdB (tlB (tlB r)) = 62)) (h6 : wouldB r = false)
    (h7 : ¬ (hdB r = 60 ∧ hdB (tlB r) = 33 ∧ hdB (tlB (tlB r)) = 45 ∧ hdB (tlB (tlB (tlB r))) = 45)) (h8 : ¬ (hdB r = 64 ∧ wouldB (tlB r) = true)) : tokB r = (signK c, tlB r) := by
  unfold tokB
  rw [if_neg (by omega), if_neg (fun hh => h3 (by omega) hh.2), if_neg (by rw [h4]; decide), if_neg h5, if_neg (by rw [h6]; decide), if_neg h7, if_neg h8, h]
  rfl
/-- A sign that is nothing else. -/
theorem tokB_sign {r : List UInt8} {c : Nat} (h : hdB r = (c : Int)) (hc : c = 40 ∨ c = 41 ∨ c = 91 ∨ c = 93 ∨ c = 123 ∨ c = 125 ∨ c = 44 ∨ c = 58 ∨ c = 59 ∨ c = 62 ∨ c = 126 ∨ c = 38 ∨ c = 42 ∨ c = 124 ∨ c = 33 ∨ c = 61 ∨ c = 94 ∨ c = 36 ∨ c = 47) : tokB r = (signK c, tlB r) := by
  refine tokB_last h (by omega) (by omega) (fun e => by omega) (cntB_no (decide_eq_false (by omega)) (by omega) (by omega) (by omega)) (fun hh => by omega) (wouldB_no (decide_eq_false (by omega)) (by omega) (by omega)) (fun hh => by omega) (fun hh => by omega)
/-- What begins nothing. -/
theorem tokB_delim {r : List UInt8} {c : Nat} (h : hdB r = (c : Int)) (hn : nsB (hdB r) = false) (hd : dgB (hdB r) = false)
    (hc : c ≠ 34 ∧ c ≠ 39 ∧ c ≠ 35 ∧ c ≠ 43 ∧ c ≠ 45 ∧ c ≠ 46 ∧ c ≠ 60 ∧ c ≠ 64 ∧ c ≠ 92) : tokB r = (signK c, tlB r) := by
  refine tokB_last h (by omega) (by omega) (fun e => by omega) (cntB_no hd (by omega) (by omega) (by omega)) (fun hh => by omega) (wouldB_no hn (by omega) (by omega)) (fun hh => by omega) (fun hh => by omega)
theorem tokB_num {r : List UInt8} (h : cntB r = true) : tokB r = ((numericB r).1, (numericB r).2.2) := by
  have h0 : ¬ (hdB r = 34 ∨ hdB r = 39) ∧ hdB r ≠ 35 := by
    rcases cntB_hd h with h1 | h1 | h1 | h1
    · have := of_decide_eq_true h1; omega
    · omega
    · omega
    · omega
  unfold tokB
  rw [if_neg h0.1, if_neg (fun hh => h0.2 hh.1), if_pos h]
theorem tokB_cdc {r : List UInt8} (h0 : cntB r = false) (h : hdB r = 45 ∧ hdB (tlB r) = 45 ∧ hdB (tlB (tlB r)) = 62) : tokB r = (4, tlB (tlB (tlB r))) := by
  unfold tokB
  rw [if_neg (by omega), if_neg (fun hh => by omega), if_neg (by rw [h0]; decide), if_pos h]
theorem tokB_ident {r : List UInt8} (hw : wouldB r = true) (h0 : cntB r = false) (h1 : ¬ (hdB r = 45 ∧ hdB (tlB r) = 45 ∧ hdB (tlB (tlB r)) = 62)) : tokB r = ((identB r).1, (identB r).2.2) := by
  have h2 : ¬ (hdB r = 34 ∨ hdB r = 39) ∧ hdB r ≠ 35 := by
    have : hdB r = 45 ∨ hdB r = 92 ∨ nsB (hdB r) = true := by
      by_cases g1 : nsB (hdB r) = true
      · exact .inr (.inr g1)
      · by_cases g2 : hdB r = 45
        · exact .inl g2
        · by_cases g3 : hdB r = 92
          · exact .inr (.inl g3)
          · rw [wouldB_no (Bool.eq_false_iff.2 g1) g2 g3] at hw; cases hw
    rcases this with g | g | g
    · omega
    · omega
    · have := of_decide_eq_true g; omega
  unfold tokB
  rw [if_neg h2.1, if_neg (fun hh => h2.2 hh.1), if_neg (by rw [h0]; decide), if_neg h1, if_pos hw]
theorem tokB_cdo {r : List UInt8} (h : hdB r = 60 ∧ hdB (tlB r) = 33 ∧ hdB (tlB (tlB r)) = 45 ∧ hdB (tlB (tlB (tlB r))) = 45) : tokB r = (5, tlB (tlB (tlB (tlB r)))) := by
  have h1 : cntB r = false := cntB_no (by rw [h.1]; decide) (by omega) (by omega) (by omega)
  have h2 : wouldB r = false := wouldB_no (by rw [h.1]; decide) (by omega) (by omega)
  unfold tokB
  rw [if_neg (by omega), if_neg (fun hh => by omega), if_neg (by rw [h1]; decide), if_neg (fun hh => by omega), if_neg (by rw [h2]; decide), if_pos h]
theorem tokB_at {r : List UInt8} (h : hdB r = 64) (hw : wouldB (tlB r) = true) : tokB r = (1, nameR (tlB r)) := by
  have h1 : cntB r = false := cntB_no (by rw [h]; decide) (by omega) (by omega) (by omega)
  have h2 : wouldB r = false := wouldB_no (by rw [h]; decide) (by omega) (by omega)
  unfold tokB
  rw [if_neg (by omega), if_neg (fun hh => by omega), if_neg (by rw [h1]; decide), if_neg (fun hh => by omega), if_neg (by rw [h2]; decide), if_neg (fun hh => by omega), if_pos ⟨h, hw⟩]
/-- Ahead of no whitespace and no comment. -/
theorem next_tok {r : List UInt8} {c : Nat} {x : Nat × List UInt8} (h : hdB r = (c : Int)) (h1 : c ≠ 10 ∧ c ≠ 13 ∧ c ≠ 12 ∧ c ≠ 9 ∧ c ≠ 32) (h2 : c = 47 → hdB (tlB r) ≠ 42) (hx : tokB r = x) : nextB r = ([], r, x.1, x.2) := by
  rw [nextB_tok (hd_ne h (by omega)) (by unfold spB; rw [decide_eq_true_iff]; omega) (fun hh => h2 (by have := hh.1; omega) hh.2), hx]
end Go.Proofs.YtmgkccnfhkcncaaGreatDoor
