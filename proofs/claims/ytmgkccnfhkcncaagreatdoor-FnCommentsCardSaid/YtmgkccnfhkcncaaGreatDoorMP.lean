/-
  Plain Lean, no program: on code points css_lexer's lexer is the reference's, where nothing is left open. Plain Lean, no program: on code points css_lexer's strings, addresses, numbers and names are the reference's, where nothing is left open. Plain Lean, no program: written names, texts in quotes and addresses, as the standard reads them. Plain Lean, no program: css_lexer's next token, where it tells nothing; written names, texts and addresses are one token.
-/
import Derived.Test.YtmgkccnfhkcncaaGreatDoorMG
namespace Go.Proofs.YtmgkccnfhkcncaaGreatDoor
open Go

theorem hd_encs (c : Nat) (t : List Nat) (h : Cp c) : hdB (encs (c :: t)) = (c : Int) := by rw [hdB_cons (encs_cons_ne c t), dec_encs c h]
theorem tl_encs (c : Nat) (t : List Nat) (h : Cp c) : tlB (encs (c :: t)) = encs t := by unfold tlB; rw [dec_encs c h]; exact drop_encs c t
theorem cps_tl {c : Nat} {t : List Nat} (h : ∀ d ∈ c :: t, Cp d) : Cp c ∧ ∀ d ∈ t, Cp d := ⟨h c (by simp), fun d hd => h d (by simp [hd])⟩
theorem spcB_encs : ∀ l : List Nat, (∀ c ∈ l, Cp c) → spcB (encs l) = encs (spS l)
  | [], _ => rfl
  | c :: t, h => by
    obtain ⟨hc, ht⟩ := cps_tl h
    rw [spS_cons]
    by_cases hw : isWs c = true
    · rw [if_pos hw, spcB_go (by rw [hd_encs c t hc, sp_nat]; exact hw), tl_encs c t hc]
      exact spcB_encs t ht
    · rw [if_neg hw, spcB_stop (by rw [hd_encs c t hc, sp_nat]; simpa using hw)]
theorem dgsB_encs : ∀ l : List Nat, (∀ c ∈ l, Cp c) → dgsB (encs l) = encs (dgS l)
  | [], _ => rfl
  | c :: t, h => by
    obtain ⟨hc, ht⟩ := cps_tl h
    rw [dgS_cons]
    by_cases hw : isDg c = true
    · rw [if_pos hw, dgsB_go (by rw [hd_encs c t hc, dg_nat]; exact hw), tl_encs c t hc]
      exact dgsB_encs t ht
    · rw [if_neg hw, dgsB_stop (by rw [hd_encs c t hc, dg_nat]; simpa using hw)]
theorem spS_cp : ∀ l : List Nat, (∀ c ∈ l, Cp c) → ∀ c ∈ spS l, Cp c
  | [], _ => fun _ h => absurd h (by simp [spS])
  | c :: t, h => by
    rw [spS_cons]
    by_cases hw : isWs c = true
    · rw [if_pos hw]; exact spS_cp t (cps_tl h).2
    · rw [if_neg hw]; exact h
theorem dgS_cp : ∀ l : List Nat, (∀ c ∈ l, Cp c) → ∀ c ∈ dgS l, Cp c
  | [], _ => fun _ h => absurd h (by simp [dgS])
  | c :: t, h => by
    rw [dgS_cons]
    by_cases hw : isDg c = true
    · rw [if_pos hw]; exact dgS_cp t (cps_tl h).2
    · rw [if_neg hw]; exact h

/-! ### numbers -/
theorem digAt_zero (r : List UInt8) : digAt r 0 = dgB (hdB r) := by
  match r with
  | [] => rfl
  | x :: t => exact digU_hd
theorem dotAt_zero (r : List UInt8) : dotAt r 0 = decide (hdB r = 46) := by
  match r with
  | [] => rfl
  | x :: t =>
    show decide (x.toNat = 46) = _
    by_cases hx : x.toNat < 128
    · rw [hdB_ascii hx]; rw [Bool.eq_iff_iff, decide_eq_true_iff, decide_eq_true_iff]; omega
    · have := hdB_high (t := t) (by omega : 128 ≤ x.toNat)
      rw [Bool.eq_iff_iff, decide_eq_true_iff, decide_eq_true_iff]; omega
theorem pmAt_zero (r : List UInt8) : pmAt r 0 = decide (hdB r = 43 ∨ hdB r = 45) := by
  match r with
  | [] => rfl
  | x :: t =>
    show decide (x.toNat = 43 ∨ x.toNat = 45) = _
    by_cases hx : x.toNat < 128
    · rw [hdB_ascii hx]; rw [Bool.eq_iff_iff, decide_eq_true_iff, decide_eq_true_iff]; omega
    · have := hdB_high (t := t) (by omega : 128 ≤ x.toNat)
      rw [Bool.eq_iff_iff, decide_eq_true_iff, decide_eq_true_iff]; omega
theorem digAt_one {r : List UInt8} {c : Nat} (h : hdB r = (c : Int)) (hc : c < 128) : digAt r 1 = dgB (hdB (tlB r)) := by
  obtain ⟨x, t, rfl, _, ht, _⟩ := hdB_low h hc
  rw [ht, ← digAt_zero]
  rfl
theorem cntB_encs (l : List Nat) (h : ∀ c ∈ l, Cp c) : cntB (encs l) = countZ (cpAt l 0) (cpAt l 1) (cpAt l 2) := by
  unfold cntB countZ
  rw [hdB_encs l h, tlB_encs l h, digAt_zero, dotAt_zero]
  have ht : ∀ c ∈ l.tail, Cp c := fun c hc => h c (List.mem_of_mem_tail hc)
  rw [hdB_encs _ ht]
  have e1 : cpAt l.tail 0 = cpAt l 1 := by cases l <;> rfl
  have e2 : cpAt l.tail.tail 0 = cpAt l 2 := by
    match l with
    | [] => rfl
    | [_] => rfl
    | _ :: _ :: _ => rfl
  rw [e1]
  by_cases h1 : dgB (cpAt l 0) = true
  · have h1' : 48 ≤ cpAt l 0 ∧ cpAt l 0 ≤ 57 := of_decide_eq_true h1
    rw [if_pos h1, if_neg (by omega), h1]; rfl
  · have h1' : dgB (cpAt l 0) = false := by simpa using h1
    rw [if_neg h1]
    by_cases h2 : cpAt l 0 = 46
    · rw [if_pos h2, if_neg (by omega), h1', decide_eq_true h2]; rfl
    · rw [if_neg h2]
      by_cases h3 : cpAt l 0 = 43 ∨ cpAt l 0 = 45
      · rw [if_pos h3, if_pos h3]
        by_cases h4 : cpAt l 1 = 46
        · have h5 : hdB (encs l.tail) = ((46 : Nat) : Int) := by rw [hdB_encs _ ht, e1, h4]; rfl
          rw [digAt_one h5 (by decide), tlB_encs _ ht, hdB_encs _ (fun c hc => ht c (List.mem_of_mem_tail hc)), e2]
        · rw [decide_eq_false h4]; simp
      · rw [if_neg h3, if_neg h3, h1', decide_eq_false h2]; rfl
theorem signS_cons (c : Nat) (t : List Nat) : signS (c :: t) = if c = 43 ∨ c = 45 then t else c :: t := rfl
theorem signB_encs (l : List Nat) (h : ∀ c ∈ l, Cp c) : signB (encs l) = encs (signS l) := by
  unfold signB
  cases l with
  | nil => rfl
  | cons c t =>
    rw [hd_encs c t (cps_tl h).1, tl_encs c t (cps_tl h).1]
    show _ = encs (if c = 43 ∨ c = 45 then t else c :: t)
    by_cases hc : c = 43 ∨ c = 45
    · rw [if_pos hc, if_pos (by omega)]
    · rw [if_neg hc, if_neg (by omega)]
theorem signS_cp (l : List Nat) (h : ∀ c ∈ l, Cp c) : ∀ c ∈ signS l, Cp c := by
  cases l with
  | nil => exact h
  | cons c t =>
    show ∀ d ∈ (if c = 43 ∨ c = 45 then t else c :: t), Cp d
    by_cases hc : c = 43 ∨ c = 45
    · rw [if_pos hc]; exact (cps_tl h).2
    · rw [if_neg hc]; exact h
theorem pointS_cons (c : Nat) (t : List Nat) : pointS (c :: t) = if c = 46 then (if dgB (cpAt t 0) = true then (dgS t, false) else (c :: t, true)) else (c :: t, false) := rfl
theorem expS_cons (c : Nat) (t : List Nat) : expS (c :: t) = if c = 101 ∨ c = 69 then (if dgB (cpAt t 0) = true ∨ ((cpAt t 0 = 43 ∨ cpAt t 0 = 45) ∧ dgB (cpAt t 1) = true) then dgS t.tail else c :: t) else c :: t := rfl
theorem pointB_encs (l : List Nat) (h : ∀ c ∈ l, Cp c) (ho : (pointS l).2 = false) : pointB (encs l) = encs (pointS l).1 := by
  unfold pointB
  cases l with
  | nil => rfl
  | cons c t =>
    obtain ⟨hc, ht⟩ := cps_tl h
    rw [hd_encs c t hc, tl_encs c t hc]
    rw [pointS_cons] at ho ⊢
    by_cases h1 : c = 46
    · rw [if_pos h1] at ho ⊢
      rw [if_pos (by omega)]
      by_cases h2 : dgB (cpAt t 0) = true
      · rw [if_pos h2]; exact dgsB_encs t ht
      · rw [if_neg h2] at ho; cases ho
    · rw [if_neg h1, if_neg (by omega)]
theorem pointS_cp (l : List Nat) (h : ∀ c ∈ l, Cp c) : ∀ c ∈ (pointS l).1, Cp c := by
  cases l with
  | nil => exact h
  | cons c t =>
    rw [pointS_cons]
    split
    · split
      · exact dgS_cp t (cps_tl h).2
      · exact h
    · exact h
theorem expB_encs (l : List Nat) (h : ∀ c ∈ l, Cp c) : expB (encs l) = encs (expS l) := by
  unfold expB
  cases l with
  | nil => rfl
  | cons c t =>
    obtain ⟨hc, ht⟩ := cps_tl h
    rw [hd_encs c t hc, tl_encs c t hc]
    rw [expS_cons]
    by_cases h1 : c = 101 ∨ c = 69
    · rw [if_pos h1]
      have hex : expLook (encs t) = decide (dgB (cpAt t 0) = true ∨ ((cpAt t 0 = 43 ∨ cpAt t 0 = 45) ∧ dgB (cpAt t 1) = true)) := by
        unfold expLook
        rw [pmAt_zero, hdB_encs t ht, digAt_zero, hdB_encs t ht]
        by_cases h2 : cpAt t 0 = 43 ∨ cpAt t 0 = 45
        · have hd0 : dgB (cpAt t 0) = false := by unfold dgB; exact decide_eq_false (by omega)
          cases t with
          | nil => simp [cpAt_nil] at h2
          | cons d u =>
            obtain ⟨hd, hu⟩ := cps_tl ht
            have h5 : hdB (encs (d :: u)) = (d : Int) := hd_encs d u hd
            rw [cpAt_zero_cons] at h2 hd0
            rw [cpAt_zero_cons, cpAt_succ_cons, hd0]
            by_cases h3 : 1 < (encs (d :: u)).length
            · rw [if_pos ⟨decide_eq_true h2, h3⟩, digAt_one h5 (by omega), tl_encs d u hd, hdB_encs u hu]
              rw [Bool.eq_iff_iff, decide_eq_true_iff]
              constructor
              · exact fun hh => .inr ⟨h2, hh⟩
              · rintro (hh | hh)
                · cases hh
                · exact hh.2
            · rw [if_neg (fun hh => h3 hh.2)]
              have hu0 : u = [] := by
                rw [encs_cons, List.length_append] at h3
                have := (enc_len d).1
                have := encs_len_le u
                exact List.eq_nil_of_length_eq_zero (by omega)
              subst hu0
              rw [cpAt_nil]
              symm
              refine decide_eq_false ?_
              rintro (hh | hh)
              · cases hh
              · exact absurd hh.2 (by decide)
        · rw [if_neg (fun hh => h2 (of_decide_eq_true hh.1))]
          rw [Bool.eq_iff_iff, decide_eq_true_iff]
          constructor
          · exact fun hh => .inl hh
          · rintro (hh | hh)
            · exact hh
            · exact absurd hh.1 h2
      rw [hex]
      by_cases h2 : dgB (cpAt t 0) = true ∨ ((cpAt t 0 = 43 ∨ cpAt t 0 = 45) ∧ dgB (cpAt t 1) = true)
      · rw [if_pos h2, if_pos ⟨by omega, decide_eq_true h2⟩, signB_encs t ht, dgsB_encs _ (signS_cp t ht)]
        congr 1
        cases t with
        | nil => rfl
        | cons d u =>
          rw [signS_cons]
          by_cases h3 : d = 43 ∨ d = 45
          · rw [if_pos h3]; rfl
          · rw [if_neg h3, dgS_cons]
            rw [cpAt_zero_cons] at h2
            rcases h2 with h2 | h2
            · rw [if_pos (by rw [← dg_nat]; exact h2)]; rfl
            · exact absurd h2.1 (by omega)
      · rw [if_neg h2, if_neg (fun hh => h2 (of_decide_eq_true hh.2))]
    · rw [if_neg h1, if_neg (by omega)]
theorem expS_cp (l : List Nat) (h : ∀ c ∈ l, Cp c) : ∀ c ∈ expS l, Cp c := by
  cases l with
  | nil => exact h
  | cons c t =>
    rw [expS_cons]
    split
    · split
      · exact dgS_cp _ (fun d hd => (cps_tl h).2 d (List.mem_of_mem_tail hd))
      · exact h
    · exact h
theorem numB_encs (l : List Nat) (h : ∀ c ∈ l, Cp c) (ho : (numS l).2 = false) : numB (encs l) = encs (numS l).1 := by
  unfold numB numS
  unfold numS at ho
  have h1 := dgS_cp _ (signS_cp l h)
  rw [signB_encs l h, dgsB_encs _ (signS_cp l h), pointB_encs _ h1 ho, expB_encs _ (pointS_cp _ h1)]
theorem numS_cp (l : List Nat) (h : ∀ c ∈ l, Cp c) : ∀ c ∈ (numS l).1, Cp c := expS_cp _ (pointS_cp _ (dgS_cp _ (signS_cp l h)))

/-! ### names -/
theorem contB_nat {c : Nat} (h : c < 128) (h1 : 1 ≤ c) : contB c.toUInt8 = conts c := by
  unfold contB
  have : c.toUInt8.toNat = c := by simp; omega
  rw [this, nc_nat c h1]
theorem contB_high {x : UInt8} (h : 128 ≤ x.toNat) : contB x = true := by
  have h1 : nsB (x.toNat : Int) = true := by unfold nsB; simp; omega
  unfold contB ncB
  rw [h1]; rfl
/-- The code points of a name ahead of what ends it or of an escape. -/
def cS : List Nat → List Nat
  | [] => []
  | c :: t => if conts c = true then cS t else c :: t
theorem cS_cons (c : Nat) (t : List Nat) : cS (c :: t) = if conts c = true then cS t else c :: t := rfl
theorem cS_cp : ∀ l : List Nat, (∀ c ∈ l, Cp c) → ∀ c ∈ cS l, Cp c
  | [], _ => fun _ h => absurd h (by simp [cS])
  | c :: t, h => by
    rw [cS_cons]
    by_cases hw : conts c = true
    · rw [if_pos hw]; exact cS_cp t (cps_tl h).2
    · rw [if_neg hw]; exact h
theorem dropWhile_app {α : Type} (p : α → Bool) : ∀ (a b : List α), (∀ x ∈ a, p x = true) → (a ++ b).dropWhile p = b.dropWhile p
  | [], _, _ => rfl
  | x :: a, b, h => by
    rw [List.cons_append, List.dropWhile_cons, if_pos (h x (by simp))]
    exact dropWhile_app p a b fun y hy => h y (by simp [hy])
theorem contB_encs : ∀ l : List Nat, (∀ c ∈ l, Cp c) → (encs l).dropWhile contB = encs (cS l)
  | [], _ => rfl
  | c :: t, h => by
    obtain ⟨hc, ht⟩ := cps_tl h
    rw [cS_cons, encs_cons]
    by_cases h128 : c < 128
    · rw [enc_ascii c h128]
      show (c.toUInt8 :: encs t).dropWhile contB = _
      rw [List.dropWhile_cons, contB_nat h128 hc.1]
      by_cases hw : conts c = true
      · rw [if_pos hw, if_pos hw]; exact contB_encs t ht
      · rw [if_neg hw, if_neg hw, encs_cons, enc_ascii c h128]; rfl
    · have hw : conts c = true := decide_eq_true (by omega)
      rw [if_pos hw, dropWhile_app contB (enc c) (encs t) (fun x hx => contB_high (enc_high c (by omega) x hx))]
      exact contB_encs t ht
theorem fastB_encs (l : List Nat) (h : ∀ c ∈ l, Cp c) : fastB (encs l) = encs (cS l) := by
  unfold fastB
  cases l with
  | nil => rfl
  | cons c t =>
    obtain ⟨hc, ht⟩ := cps_tl h
    rw [hd_encs c t hc, tl_encs c t hc, nc_nat c hc.1, cS_cons]
    by_cases hw : conts c = true
    · rw [if_pos hw, if_pos hw]; exact contB_encs t ht
    · rw [if_neg hw, if_neg hw]
theorem escTail_ws (l r : List Nat) (h : escTail l = (r, false)) : dropWsC l = r := by
  cases l with
  | nil => exact (Prod.mk.inj h).1
  | cons d u =>
    rw [escTail_cons] at h
    rw [dropWsC_cons]
    by_cases h1 : isNl d = true
    · rw [if_pos h1] at h; simp at h
    · rw [if_neg h1] at h
      by_cases h2 : isWs d = true
      · rw [if_pos h2] at h ⊢; exact (Prod.mk.inj h).1
      · rw [if_neg h2] at h ⊢; exact (Prod.mk.inj h).1
theorem escV_encs (t : List Nat) (h : ∀ c ∈ t, Cp c) (ho : (escS t).2.2 = false) : escV (encs (92 :: t)) = ((escS t).1, encs (escS t).2.1) := by
  have h92 : Cp 92 := by unfold Cp; omega
  unfold escV
  rw [tl_encs 92 t h92]
  cases t with
  | nil => exact absurd ho (by decide)
  | cons d u =>
    obtain ⟨hd, hu⟩ := cps_tl h
    have h0 : ¬ hdB (encs (d :: u)) = -1 := by rw [hd_encs d u hd]; omega
    rw [if_neg h0, dec_encs d hd, tl_encs d u hd]
    dsimp only
    cases hx : hexv d with
    | none => rw [escS_none u hx]
    | some x =>
      rw [escS_some u hx] at ho ⊢
      dsimp only at ho ⊢
      rw [hexRunB_encs 5 x u hu]
      dsimp only
      rw [dropWsB_encs _ (hexRunC_cp 5 x u hu), escTail_ws (hexRunC 5 x u).2 (escTail (hexRunC 5 x u).2).1 (Prod.ext rfl ho)]
theorem nloopB_encs : ∀ (n : Nat) (l : List Nat), l.length ≤ n → (∀ c ∈ l, Cp c) → (nameS l).2.2 = false → nloopB (encs l) = (encs (nameS l).1, encs (nameS l).2.1) := by
  intro n
  induction n with
  | zero =>
    intro l hn h ho
    have : l = [] := List.eq_nil_of_length_eq_zero (by omega)
    subst this
    exact nloopB_stop (by decide) (by decide)
  | succ n ih =>
    intro l hn h ho
    match l, hn, h, ho with
    | [], _, _, _ => exact nloopB_stop (by decide) (by decide)
    | c :: t, hn, h, ho =>
      obtain ⟨hc, ht⟩ := cps_tl h
      simp only [List.length_cons] at hn
      have e1 : ncB (hdB (encs (c :: t))) = conts c := by rw [hd_encs c t hc, nc_nat c hc.1]
      by_cases h1 : conts c = true
      · rw [nameS_conts c t h1] at ho ⊢
        rw [nloopB_conts (e1.trans h1), tl_encs c t hc, ih t (by omega) ht ho, hd_encs c t hc]
        dsimp only
        rw [encs_cons]; rfl
      · by_cases h2 : c = 92 ∧ escOk t = true
        · obtain ⟨rfl, h2⟩ := h2
          rw [nameS_esc t h2, Bool.or_eq_false_iff] at ho
          rw [nameS_esc t h2]
          have hl := escS_len t
          have hp := escS_cp t ht
          rw [nloopB_esc (by rw [e1]; exact h1) (by rw [vescB_encs 92 t h]; exact decide_eq_true ⟨rfl, h2⟩), escV_encs t ht ho.1]
          dsimp only
          rw [ih _ (by omega) hp.2 ho.2, encs_cons]; rfl
        · rw [nameS_stop c t h1 h2]
          exact nloopB_stop (by rw [e1]; exact h1) (by rw [vescB_encs c t h, decide_eq_true_iff]; exact h2)
/-- What nameS does with the code points ahead of the first escape. -/
theorem nameS_cS : ∀ l : List Nat, ∃ p, l = p ++ cS l ∧ nameS l = (p ++ (nameS (cS l)).1, (nameS (cS l)).2.1, (nameS (cS l)).2.2)
  | [] => ⟨[], rfl, rfl⟩
  | c :: t => by
    rw [cS_cons]
    by_cases hw : conts c = true
    · rw [if_pos hw, nameS_conts c t hw]
      obtain ⟨p, h1, h2⟩ := nameS_cS t
      exact ⟨c :: p, by rw [List.cons_append, ← h1], by rw [h2]; rfl⟩
    · rw [if_neg hw]; exact ⟨[], rfl, rfl⟩
theorem cS_stop : ∀ (l : List Nat) (c : Nat) (t : List Nat), cS l = c :: t → conts c = false
  | [], _, _, h => by cases h
  | d :: u, c, t, h => by
    rw [cS_cons] at h
    by_cases hw : conts d = true
    · rw [if_pos hw] at h; exact cS_stop u c t h
    · rw [if_neg hw] at h
      obtain ⟨rfl, _⟩ := List.cons.inj h
      simpa using hw
theorem name_encs (l : List Nat) (h : ∀ c ∈ l, Cp c) (ho : (nameS l).2.2 = false) : nameR (encs l) = encs (nameS l).2.1 ∧ nameW (encs l) = encs (nameS l).1 := by
  obtain ⟨p, hp, hn⟩ := nameS_cS l
  have hcp := cS_cp l h
  rw [hn] at ho ⊢
  have htake : (encs l).take ((encs l).length - (encs (cS l)).length) = encs p := by
    have e : encs l = encs p ++ encs (cS l) := by rw [← encs_append, ← hp]
    rw [e, List.length_append, Nat.add_sub_cancel, List.take_left']
    rfl
  unfold nameR nameW
  rw [fastB_encs l h, htake]
  cases hc : cS l with
  | nil =>
    rw [hc] at ho
    rw [if_neg (by decide), if_neg (by decide)]
    exact ⟨rfl, by rw [nameS_nil, List.append_nil, List.append_nil]⟩
  | cons c t =>
    rw [hc] at ho hcp
    have hst := cS_stop l c t hc
    obtain ⟨hcc, ht⟩ := cps_tl hcp
    rw [vescB_encs c t hcp]
    by_cases h2 : c = 92 ∧ escOk t = true
    · obtain ⟨rfl, h2⟩ := h2
      rw [if_pos (decide_eq_true ⟨rfl, h2⟩), if_pos (decide_eq_true ⟨rfl, h2⟩)]
      rw [nameS_esc t h2, Bool.or_eq_false_iff] at ho
      rw [nameS_esc t h2, escV_encs t ht ho.1]
      dsimp only
      rw [nloopB_encs _ _ (Nat.le_refl _) (escS_cp t ht).2 ho.2]
      refine ⟨rfl, ?_⟩
      rw [encs_append, encs_cons]; rfl
    · rw [if_neg (fun e => h2 (of_decide_eq_true e)), if_neg (fun e => h2 (of_decide_eq_true e))]
      rw [nameS_stop c t (by rw [hst]; decide) h2, List.append_nil, List.append_nil]
      exact ⟨rfl, rfl⟩
end Go.Proofs.YtmgkccnfhkcncaaGreatDoor

namespace Go.Proofs.YtmgkccnfhkcncaaGreatDoor
open Go

/-! ### strings -/
theorem not_end {c : Nat} (h : isNl c = false) : ¬ ((c : Int) = -1 ∨ nlB (c : Int) = true) := by
  rw [nl_nat, h]
  rintro (hh | hh)
  · omega
  · cases hh
/-- A code point that a string goes over. -/
theorem strB_over (q : Nat) (c : Nat) (t : List Nat) (hc : Cp c) (h1 : c ≠ q) (h2 : isNl c = false) (h3 : c ≠ 92) : strB (q : Int) (encs (c :: t)) = strB (q : Int) (encs t) := by
  refine loopB_go (strStep_lt _) ?_
  unfold strStep
  rw [hd_encs c t hc, tl_encs c t hc, if_neg (by omega), if_neg (not_end h2), if_neg (by omega)]
theorem strB_hex (q : Nat) (hq : q = 34 ∨ q = 39) : ∀ (n v : Nat) (l : List Nat), (∀ c ∈ l, Cp c) → strB (q : Int) (encs l) = strB (q : Int) (encs (hexRunC n v l).2)
  | 0, _, _, _ => rfl
  | n + 1, v, [], _ => rfl
  | n + 1, v, c :: t, h => by
    obtain ⟨hc, ht⟩ := cps_tl h
    rw [hexRunC_cons]
    cases hx : hexv c with
    | none => rfl
    | some x =>
      have ha := hexv_ascii hx
      have hn : isNl c = false := by
        cases hn : isNl c
        · rfl
        · exfalso; simp [isNl] at hn; omega
      have h92 : c ≠ 92 := by rintro rfl; have h0 : hexv 92 = none := rfl; rw [h0] at hx; cases hx
      dsimp only
      rw [strB_over q c t hc (by omega) hn h92]
      exact strB_hex q hq n _ t ht
theorem strB_tail (q : Nat) (hq : q = 34 ∨ q = 39) (l : List Nat) (h : ∀ c ∈ l, Cp c) (ho : (escTail l).2 = false) : strB (q : Int) (encs l) = strB (q : Int) (encs (escTail l).1) := by
  cases l with
  | nil => rfl
  | cons d u =>
    rw [escTail_cons] at ho ⊢
    by_cases h1 : isNl d = true
    · rw [if_pos h1] at ho; cases ho
    · rw [if_neg h1]
      by_cases h2 : isWs d = true
      · rw [if_pos h2]
        have h3 : d = 32 ∨ d = 9 := by simp [isWs] at h2; simp [isNl] at h1; omega
        exact strB_over q d u (cps_tl h).1 (by omega) (by simpa using h1) (by omega)
      · rw [if_neg h2]
theorem strB_encs (q : Nat) (hq : q = 34 ∨ q = 39) : ∀ (n : Nat) (l : List Nat), l.length ≤ n → (∀ c ∈ l, Cp c) → (quotS q l).2.2.2 = false → strB (q : Int) (encs l) = ((quotS q l).1, encs (quotS q l).2.2.1) := by
  intro n
  induction n with
  | zero =>
    intro l hn h ho
    have : l = [] := List.eq_nil_of_length_eq_zero (by omega)
    subst this
    rw [quotS_nil] at ho
    cases ho
  | succ n ih =>
    intro l hn h ho
    match l, hn, h, ho with
    | [], _, _, ho => rw [quotS_nil] at ho; cases ho
    | c :: t, hn, h, ho =>
      obtain ⟨hc, ht⟩ := cps_tl h
      simp only [List.length_cons] at hn
      have e1 := hd_encs c t hc
      have e2 := tl_encs c t hc
      by_cases h1 : c = q
      · subst h1
        rw [quotS_end]
        refine loopB_end ?_
        unfold strStep
        rw [e1, e2, if_neg (by omega), if_neg (by unfold nlB; simp; omega), if_pos rfl]
      · by_cases h2 : isNl c = true
        · rw [quotS_nl q c t h1 h2]
          refine loopB_end ?_
          unfold strStep
          have h3 : c = 10 ∨ c = 13 ∨ c = 12 := by simp [isNl] at h2; omega
          rw [e1, if_neg (by omega), if_pos (.inr (by rw [nl_nat]; exact h2))]
        · have h2' : isNl c = false := by simpa using h2
          by_cases h3 : c = 92
          · subst h3
            match t, hn, ht, e1, e2, ho with
            | [], _, _, _, _, ho =>
              rw [quotS_last q (by omega)] at ho
              cases ho
            | d :: u, hn, ht, e1, e2, ho =>
              obtain ⟨hd, hu⟩ := cps_tl ht
              simp only [List.length_cons] at hn
              by_cases h4 : isNl d = true
              · rw [quotS_cont q d u (by omega) h4] at ho ⊢
                have hl : (nlS (d :: u)).length ≤ u.length := by
                  rw [nlS_cons]
                  split
                  · exact dropLfC_len u
                  · exact Nat.le_refl _
                have hp := nlS_cp (d :: u) ht
                rw [← ih (nlS (d :: u)) (by omega) hp ho]
                refine loopB_go (strStep_lt _) ?_
                unfold strStep
                rw [e1, e2, if_pos (by decide), hd_encs d u hd, tl_encs d u hd, nlS_cons]
                by_cases h5 : d = 13
                · subst h5
                  rw [if_pos (show ((13 : Nat) : Int) = 13 from rfl), if_pos (show (13 : Nat) = 13 from rfl)]
                  congr 1
                  cases u with
                  | nil => rfl
                  | cons e v =>
                    obtain ⟨he, hv⟩ := cps_tl hu
                    rw [hd_encs e v he, tl_encs e v he, dropLfC_cons]
                    by_cases h6 : e = 10
                    · rw [if_pos h6, if_pos (by omega)]
                    · rw [if_neg h6, if_neg (by omega)]
                · rw [if_neg h5, if_neg (by omega)]
              · have h4' : isNl d = false := by simpa using h4
                have hd13 : d ≠ 13 := by rintro rfl; exact absurd h4' (by decide)
                rw [quotS_esc q d u (by omega) h4'] at ho ⊢
                dsimp only at ho ⊢
                rw [Bool.or_eq_false_iff] at ho
                have hstep : strB (q : Int) (encs (92 :: d :: u)) = strB (q : Int) (encs u) := by
                  refine loopB_go (strStep_lt _) ?_
                  unfold strStep
                  rw [e1, e2, if_pos (by decide), hd_encs d u hd, tl_encs d u hd, if_neg (by omega)]
                have hl := escS_len (d :: u)
                have hp := escS_cp (d :: u) ht
                rw [hstep]
                cases hx : hexv d with
                | none =>
                  rw [escS_none u hx] at ho ⊢
                  exact ih u (by omega) hu ho.2
                | some x =>
                  rw [escS_some u hx] at ho ⊢
                  dsimp only at ho ⊢
                  have hc2 := hexRunC_cp 5 x u hu
                  have hl2 := hexRunC_len 5 x u
                  have hl3 := escTail_len (hexRunC 5 x u).2
                  rw [strB_hex q hq 5 x u hu, strB_tail q hq _ hc2 ho.1]
                  exact ih _ (by omega) (escTail_cp _ hc2) ho.2
          · rw [quotS_plain q c t h1 h2' h3] at ho ⊢
            dsimp only at ho ⊢
            rw [strB_over q c t hc h1 h2' h3]
            exact ih t (by omega) ht ho

/-! ### addresses -/
theorem badB_encs : ∀ (n : Nat) (l : List Nat), l.length ≤ n → (∀ c ∈ l, Cp c) → (badS l).2 = false → badB (encs l) = encs (badS l).1 := by
  intro n
  induction n with
  | zero =>
    intro l hn h ho
    have : l = [] := List.eq_nil_of_length_eq_zero (by omega)
    subst this
    rw [badS_nil] at ho
    cases ho
  | succ n ih =>
    intro l hn h ho
    match l, hn, h, ho with
    | [], _, _, ho => rw [badS_nil] at ho; cases ho
    | c :: t, hn, h, ho =>
      obtain ⟨hc, ht⟩ := cps_tl h
      simp only [List.length_cons] at hn
      have e1 := hd_encs c t hc
      have e2 := tl_encs c t hc
      by_cases h1 : c = 41
      · subst h1
        rw [badS_end]
        refine loopB_end ?_
        unfold badStep
        rw [e1, e2, if_pos (by decide)]
      · by_cases h2 : c = 92 ∧ escOk t = true
        · obtain ⟨rfl, h2⟩ := h2
          rw [badS_esc t h2] at ho
          cases ho
        · rw [badS_other c t h1 h2] at ho ⊢
          rw [← ih t (by omega) ht ho]
          refine loopB_go badStep_lt ?_
          unfold badStep
          rw [e1, e2, if_neg (by omega), vescB_encs c t h, if_neg (fun e => h2 (of_decide_eq_true e))]
theorem urlB_bad {l : List Nat} (h : ∀ c ∈ l, Cp c) {x : List UInt8} (hu : urlB x = (none, encs l)) (ho : (badS l).2 = false) : addrB x = (3, true, encs (badS l).1) := by
  unfold addrB
  rw [hu]
  dsimp only
  rw [badB_encs _ l (Nat.le_refl _) h ho]
theorem addrB_go {x y : List UInt8} (h : urlStep x = .inr y) : addrB x = addrB y := by
  unfold addrB urlB
  rw [loopB_go urlStep_lt h]
theorem addrB_encs : ∀ (n : Nat) (l : List Nat), l.length ≤ n → (∀ c ∈ l, Cp c) → (urlS l).2.2.2 = false →
    addrB (encs l) = (if (urlS l).1 = true then 37 else 3, !(urlS l).1, encs (urlS l).2.2.1) := by
  intro n
  induction n with
  | zero =>
    intro l hn h ho
    have : l = [] := List.eq_nil_of_length_eq_zero (by omega)
    subst this
    rw [urlS_nil] at ho
    cases ho
  | succ n ih =>
    intro l hn h ho
    match l, hn, h, ho with
    | [], _, _, ho => rw [urlS_nil] at ho; cases ho
    | c :: t, hn, h, ho =>
      obtain ⟨hc, ht⟩ := cps_tl h
      simp only [List.length_cons] at hn
      have e1 := hd_encs c t hc
      have e2 := tl_encs c t hc
      have hcr : c ≤ 1114111 := by unfold Cp at hc; omega
      have hc1 : 1 ≤ c := hc.1
      by_cases h1 : c = 41
      · subst h1
        rw [urlS_end]
        unfold addrB urlB
        rw [loopB_end (a := (some (false, encs t), [])) (by unfold urlStep; rw [e1, e2, if_pos (by decide)])]
        rfl
      · have n1 : ¬ (c : Int) = 41 := by omega
        have n2 : ¬ (c : Int) = -1 := by omega
        by_cases h2 : isWs c = true
        · have w : spB (c : Int) = true := by rw [sp_nat]; exact h2
          have hs := spcB_encs t ht
          have hsp := spS_cp t ht
          cases hst : spS t with
          | nil => rw [urlS_ws_nil c t h2 hst] at ho; cases ho
          | cons d u =>
            rw [hst] at hs hsp
            obtain ⟨hd, hu⟩ := cps_tl hsp
            by_cases h3 : d = 41
            · subst h3
              rw [urlS_ws_end c t u h2 hst]
              unfold addrB urlB
              rw [loopB_end (a := (some (false, encs u), [])) (by unfold urlStep; rw [e1, e2, if_neg n1, if_neg n2, if_pos w, hs, hd_encs 41 u hd, tl_encs 41 u hd]; rfl)]
              rfl
            · rw [urlS_ws_bad c t d u h2 hst h3] at ho ⊢
              have := urlB_bad (x := encs (c :: t)) hsp (loopB_end (by unfold urlStep; rw [e1, e2, if_neg n1, if_neg n2, if_pos w, hs, hd_encs d u hd, if_neg (by omega), if_neg (by omega)])) ho
              rw [this]; rfl
        · have h2' : isWs c = false := by simpa using h2
          have w : ¬ spB (c : Int) = true := by rw [sp_nat]; exact h2
          by_cases h3 : spoils c t = true
          · rw [urlS_spoils c t h1 h2' h3] at ho ⊢
            have h4 : c = 34 ∨ c = 39 ∨ c = 40 ∨ (c ≤ 8 ∨ c = 11 ∨ (14 ≤ c ∧ c ≤ 31) ∨ c = 127) ∨ (c = 92 ∧ escOk t = false) := of_decide_eq_true h3
            have := urlB_bad (x := encs (c :: t)) h (loopB_end (by
              unfold urlStep
              rw [e1, e2, if_neg n1, if_neg n2, if_neg w]
              by_cases h5 : c = 34 ∨ c = 39 ∨ c = 40
              · rw [if_pos (by omega)]
              · rw [if_neg (by omega)]
                by_cases h6 : c = 92
                · subst h6
                  rw [if_pos (by decide), vescB_encs 92 t h, if_neg (by
                    intro hh
                    have := (of_decide_eq_true hh).2
                    rcases h4 with h4 | h4 | h4 | h4 | h4
                    · omega
                    · omega
                    · omega
                    · omega
                    · rw [h4.2] at this; cases this)]
                · rw [if_neg (by omega), if_pos (by unfold unpB; simp; omega)])) ho
            rw [this]; rfl
          · have h3' : spoils c t = false := by simpa using h3
            have h4 : ¬ (c = 34 ∨ c = 39 ∨ c = 40 ∨ (c ≤ 8 ∨ c = 11 ∨ (14 ≤ c ∧ c ≤ 31) ∨ c = 127) ∨ (c = 92 ∧ escOk t = false)) := of_decide_eq_false h3'
            by_cases h6 : c = 92
            · subst h6
              have hok : escOk t = true := by
                cases hok : escOk t
                · exact absurd (.inr (.inr (.inr (.inr ⟨rfl, hok⟩)))) h4
                · rfl
              rw [urlS_esc t hok] at ho ⊢
              dsimp only at ho ⊢
              rw [Bool.or_eq_false_iff] at ho
              have hl := escS_len t
              have hp := escS_cp t ht
              rw [← ih _ (by omega) hp.2 ho.2]
              refine addrB_go ?_
              unfold urlStep
              rw [e1, if_neg n1, if_neg n2, if_neg w, if_neg (by omega), if_pos (by decide), vescB_encs 92 t h, if_pos (decide_eq_true ⟨rfl, hok⟩), escV_encs t ht ho.1]
            · rw [urlS_plain c t h1 h2' h3' h6] at ho ⊢
              dsimp only at ho ⊢
              rw [← ih t (by omega) ht ho]
              refine addrB_go ?_
              unfold urlStep
              rw [e1, e2, if_neg n1, if_neg n2, if_neg w, if_neg (by omega), if_neg (by omega), if_neg (by unfold unpB; simp; omega)]

/-! ### names and numbers -/
theorem blen_encs (l : List Nat) : (encs l).length = blen l := rfl
theorem numericB_encs (l : List Nat) (h : ∀ c ∈ l, Cp c) (ho : (numericS l).2.2 = false) : numericB (encs l) = ((numericS l).1.kind, (numericS l).1.unit, encs (numericS l).2.1) := by
  have hcp := numS_cp l h
  unfold numericB
  unfold numericS at ho ⊢
  by_cases h1 : identZ (cpAt (numS l).1 0) (cpAt (numS l).1 1) (cpAt (numS l).1 2) = true
  · rw [if_pos h1] at ho ⊢
    dsimp only at ho
    rw [Bool.or_eq_false_iff] at ho
    rw [numB_encs l h ho.1, wouldB_encs _ hcp, if_pos h1, (name_encs _ hcp ho.2).1]
    rfl
  · rw [if_neg h1] at ho ⊢
    by_cases h2 : cpAt (numS l).1 0 = 37
    · rw [if_pos h2] at ho ⊢
      rw [numB_encs l h ho, wouldB_encs _ hcp, if_neg h1, hdB_encs _ hcp, if_pos h2, tlB_encs _ hcp]
    · rw [if_neg h2] at ho ⊢
      rw [numB_encs l h ho, wouldB_encs _ hcp, if_neg h1, hdB_encs _ hcp, if_neg h2]
theorem identB_encs (l : List Nat) (h : ∀ c ∈ l, Cp c) (ho : (namedS l).2.2 = false) : ∃ t, identB (encs l) = ((namedS l).1.kind, t, encs (namedS l).2.1) ∧ ((namedS l).1.kind ≠ 3 → t = false) := by
  have ho1 : (nameS l).2.2 = false := by
    unfold namedS at ho
    split at ho
    · exact ho
    · split at ho
      · exact ho
      · split at ho
        · exact (Bool.or_eq_false_iff.1 ho).1
        · exact ho
  obtain ⟨h1, h2⟩ := name_encs l h ho1
  have hcp := (nameS_cp _ l (Nat.le_refl _) h).2
  have hcn := (nameS_cp _ l (Nat.le_refl _) h).1
  unfold identB
  rw [h1, h2, isUrl_encs _ hcn]
  unfold namedS at ho ⊢
  cases hr : (nameS l).2.1 with
  | nil =>
    rw [if_neg (by decide)]
    exact ⟨false, rfl, fun _ => rfl⟩
  | cons c t =>
    rw [hr] at hcp ho
    obtain ⟨hc, ht⟩ := cps_tl hcp
    dsimp only at ho ⊢
    rw [hd_encs c t hc, tl_encs c t hc]
    by_cases h3 : c = 40
    · subst h3
      rw [if_neg (show ¬ ((40 : Nat) ≠ 40) by simp)] at ho ⊢
      rw [if_pos (show ((40 : Nat) : Int) = 40 from rfl), spcB_encs t ht, hdB_encs _ (spS_cp t ht)]
      by_cases h4 : isUrlC (nameS l).1 = true ∧ cpAt (spS t) 0 ≠ 34 ∧ cpAt (spS t) 0 ≠ 39
      · rw [if_pos h4] at ho ⊢
        rw [if_pos h4]
        dsimp only at ho ⊢
        have ho2 : (urlS (spS t)).2.2.2 = false := by
          have := (Bool.or_eq_false_iff.1 ho).2
          unfold addrS at this
          dsimp only at this
          rw [Bool.or_eq_false_iff, Bool.or_eq_false_iff] at this
          exact this.1.1
        rw [addrB_encs _ _ (Nat.le_refl _) (spS_cp t ht) ho2]
        refine ⟨_, rfl, ?_⟩
        unfold addrS
        dsimp only
        cases (urlS (spS t)).1 with
        | true => exact fun _ => rfl
        | false => intro h5; exact absurd rfl h5
      · rw [if_neg h4, if_neg h4]
        exact ⟨false, rfl, fun _ => rfl⟩
    · rw [if_pos h3, if_neg (by omega)]
      exact ⟨false, rfl, fun _ => rfl⟩
end Go.Proofs.YtmgkccnfhkcncaaGreatDoor

namespace Go.Proofs.YtmgkccnfhkcncaaGreatDoor
open Go

theorem hex_notNl {d x : Nat} (h : hexv d = some x) : isNl d = false := by
  have := hexv_ascii h
  simp [isNl]; omega
/-- An escape of digits and a blank, behind its backslash. -/
theorem coded_form (least c : Nat) (h : Cp c) (hl : least ≤ 6) (r : List Nat) : ∃ d t, digs least c ++ 32 :: r = d :: t ∧ isNl d = false ∧ escS (d :: t) = (c, r, false) := by
  have hc : c ≤ 1114111 := by unfold Cp at h; omega
  obtain ⟨d, t, hd⟩ := digs_ne least c h.1
  have hh := digs_hex least c
  have hv := digs_val least c
  have hle := digs_len least c hc hl
  rw [hd] at hh hv hle
  obtain ⟨x, hx⟩ := hh d (by simp)
  have hr := hexRunC_digits 5 x t (32 :: r) (fun e he => hh e (by simp [he])) (by simp only [List.length_cons] at hle; omega) (by intro e u he; simp at he; rw [← he.1]; rfl)
  have hxv : val x t = c := by rw [val_cons, hx] at hv; simpa using hv
  refine ⟨d, t ++ 32 :: r, by rw [hd]; rfl, hex_notNl hx, ?_⟩
  rw [escS_some _ hx, hr]
  dsimp only
  rw [hxv, fix_self c h, escTail_cons, if_neg (by decide), if_pos (by decide)]
theorem codedC_app (least c : Nat) (r : List Nat) : codedC least c ++ r = 92 :: (digs least c ++ 32 :: r) := by simp [codedC]

/-! ### names -/
theorem nameS_coded (least c : Nat) (h : Cp c) (hl : least ≤ 6) (r : List Nat) : nameS (codedC least c ++ r) = (c :: (nameS r).1, (nameS r).2.1, (nameS r).2.2) := by
  obtain ⟨d, t, h1, h2, h3⟩ := coded_form least c h hl r
  rw [codedC_app, h1, nameS_esc _ (by show (!isNl d) = true; rw [h2]; rfl), h3]
  rfl
theorem nameS_back (c : Nat) (r : List Nat) (hx : hexv c = none) (hn : isNl c = false) : nameS (92 :: c :: r) = (c :: (nameS r).1, (nameS r).2.1, (nameS r).2.2) := by
  rw [nameS_esc _ (by show (!isNl c) = true; rw [hn]; rfl), escS_none r hx]
  rfl
theorem idChar_bk {dig lone : Bool} {c : Nat} (hl : lone = true → c = 45) (h1 : ¬ (isCtl c = true ∨ (isDg c = true ∧ dig = true))) (h2 : ¬ (conts c = true ∧ lone = false)) (hc : 1 ≤ c) : hexv c = none ∧ isNl c = false := by
  have hc' : ¬ ((1 ≤ c ∧ c ≤ 31) ∨ c = 127) := fun hh => h1 (.inl (decide_eq_true hh))
  refine ⟨?_, by simp [isNl]; omega⟩
  cases lone with
  | true => rw [hl rfl]; rfl
  | false =>
    have h3 : ¬ ((97 ≤ c ∧ c ≤ 122) ∨ (65 ≤ c ∧ c ≤ 90) ∨ c = 95 ∨ 128 ≤ c ∨ (48 ≤ c ∧ c ≤ 57) ∨ c = 45) := fun hh => h2 ⟨decide_eq_true hh, rfl⟩
    exact hexv_none (by omega)
theorem nameS_idChar (dig lone : Bool) (c : Nat) (h : Cp c) (hl : lone = true → c = 45) (r : List Nat) : nameS (idChar dig lone c ++ r) = (c :: (nameS r).1, (nameS r).2.1, (nameS r).2.2) := by
  unfold idChar
  by_cases h1 : isCtl c = true ∨ (isDg c = true ∧ dig = true)
  · rw [if_pos h1]; exact nameS_coded 1 c h (by omega) r
  · rw [if_neg h1]
    by_cases h2 : conts c = true ∧ lone = false
    · rw [if_pos h2]; exact nameS_conts c r h2.1
    · rw [if_neg h2]
      obtain ⟨hx, hn⟩ := idChar_bk hl h1 h2 h.1
      exact nameS_back c r hx hn
theorem idRest_cons (lone : Bool) (c : Nat) (t : List Nat) : idRest lone (c :: t) = idChar false lone c ++ idRest lone t := by simp [idRest]
theorem nameS_idRest : ∀ (l : List Nat), (∀ c ∈ l, Cp c) → ∀ r, nameS (idRest false l ++ r) = (l ++ (nameS r).1, (nameS r).2.1, (nameS r).2.2)
  | [], _, _ => rfl
  | c :: t, h, r => by
    rw [idRest_cons, List.append_assoc, nameS_idChar false false c (h c (by simp)) (by simp), nameS_idRest t (fun d hd => h d (by simp [hd])) r]
    rfl
theorem nameS_nameC (l : List Nat) (h : ∀ c ∈ l, Cp c) (r : List Nat) : nameS (nameC l ++ r) = (l ++ (nameS r).1, (nameS r).2.1, (nameS r).2.2) := nameS_idRest l h r
theorem nameS_identC (l : List Nat) (h : ∀ c ∈ l, Cp c) (r : List Nat) : nameS (identC l ++ r) = (l ++ (nameS r).1, (nameS r).2.1, (nameS r).2.2) := by
  match l, h with
  | [], _ => rfl
  | [c], h => exact nameS_idChar true (c == 45) c (h c (by simp)) (by simp) r
  | c :: d :: t, h =>
    show nameS ((idChar true false c ++ idChar (c == 45) false d ++ idRest false t) ++ r) = _
    rw [List.append_assoc, List.append_assoc, nameS_idChar true false c (h c (by simp)) (by simp), nameS_idChar (c == 45) false d (h d (by simp)) (by simp), nameS_idRest t (fun e he => h e (by simp [he])) r]
    rfl
theorem nameS_unitC (l : List Nat) (h : ∀ c ∈ l, Cp c) (r : List Nat) : nameS (unitC l ++ r) = (l ++ (nameS r).1, (nameS r).2.1, (nameS r).2.2) := by
  match l, h with
  | [], _ => rfl
  | c :: t, h =>
    rw [unitC_cons]
    by_cases he : c = 101 ∨ c = 69
    · rw [if_pos he, List.append_assoc, nameS_coded 1 c (h c (by simp)) (by omega), nameS_nameC t (fun d hd => h d (by simp [hd])) r]
      rfl
    · rw [if_neg he]; exact nameS_identC _ h r
theorem nameS_paren (r : List Nat) : nameS (40 :: r) = ([], 40 :: r, false) := nameS_stop 40 r (by decide) (by simp)

/-! ### how a written name begins -/
/-- It begins an identifier, no number, and no -->; x: and no exponent. -/
def Begins (x : Bool) (l : List Nat) : Prop := ∃ c t, l = c :: t ∧ identZ (c : Int) (cpAt t 0) (cpAt t 1) = true ∧ countZ (c : Int) (cpAt t 0) (cpAt t 1) = false ∧ ¬ (c = 45 ∧ cpAt t 0 = 45 ∧ cpAt t 1 = 62) ∧ (x = true → c ≠ 101 ∧ c ≠ 69)
theorem begins_esc (x : Bool) {d : Nat} (t : List Nat) (h : isNl d = false) : Begins x (92 :: d :: t) := by
  refine ⟨92, d :: t, rfl, ?_, ?_, by omega, fun _ => by omega⟩
  · unfold identZ
    rw [if_neg (by decide), Bool.or_eq_true]
    right
    rw [show ((92 : Nat) : Int) = ((92 : Nat) : Int) from rfl, escZ_ok, decide_eq_true_eq]
    exact ⟨rfl, by show (!isNl d) = true; rw [h]; rfl⟩
  · unfold countZ
    rw [if_neg (by decide)]
    simp [dgB]
theorem begins_coded (x : Bool) (least c : Nat) (h : Cp c) (hl : least ≤ 6) (r : List Nat) : Begins x (codedC least c ++ r) := by
  obtain ⟨d, t, h1, h2, _⟩ := coded_form least c h hl r
  rw [codedC_app, h1]
  exact begins_esc x t h2
theorem begins_starts (x : Bool) {c : Nat} (t : List Nat) (h : starts c = true) (he : x = true → c ≠ 101 ∧ c ≠ 69) : Begins x (c :: t) := by
  have h' : (97 ≤ c ∧ c ≤ 122) ∨ (65 ≤ c ∧ c ≤ 90) ∨ c = 95 ∨ 128 ≤ c := of_decide_eq_true h
  refine ⟨c, t, rfl, ?_, ?_, by omega, he⟩
  · unfold identZ
    rw [if_neg (by omega), ss_nat, h, Bool.true_or]
  · unfold countZ
    rw [if_neg (by omega)]
    have h1 : dgB (c : Int) = false := by unfold dgB; simp; omega
    have h2 : decide ((c : Int) = 46) = false := decide_eq_false (by omega)
    rw [h1, h2]; rfl
/-- Behind a hyphen. -/
theorem begins_hyphen (x : Bool) {d : Nat} {t : List Nat} (h : starts d = true ∨ d = 45 ∨ (d = 92 ∧ escOk t = true)) (h62 : d = 45 → cpAt t 0 ≠ 62) : Begins x (45 :: d :: t) := by
  have hd : ¬ (48 ≤ d ∧ d ≤ 57) ∧ d ≠ 46 := by
    rcases h with h | rfl | ⟨rfl, _⟩
    · have h' : (97 ≤ d ∧ d ≤ 122) ∨ (65 ≤ d ∧ d ≤ 90) ∨ d = 95 ∨ 128 ≤ d := of_decide_eq_true h
      omega
    · omega
    · omega
  refine ⟨45, d :: t, rfl, ?_, ?_, ?_, fun _ => by omega⟩
  · unfold identZ
    rw [if_pos (by decide), cpAt_zero_cons, cpAt_succ_cons, ss_nat, escZ_ok]
    rcases h with h | rfl | h
    · rw [h]; rfl
    · simp
    · rw [decide_eq_true h]; simp
  · unfold countZ
    rw [if_pos (by decide), cpAt_zero_cons]
    have h1 : dgB (d : Int) = false := by unfold dgB; simp; omega
    have h2 : decide ((d : Int) = 46) = false := decide_eq_false (by omega)
    rw [h1, h2]; rfl
  · rw [cpAt_zero_cons, cpAt_succ_cons]
    rintro ⟨_, h1, h2⟩
    exact h62 (by omega) h2
theorem conts_cases {c : Nat} (h : conts c = true) : starts c = true ∨ isDg c = true ∨ c = 45 := by
  have h' : (97 ≤ c ∧ c ≤ 122) ∨ (65 ≤ c ∧ c ≤ 90) ∨ c = 95 ∨ 128 ≤ c ∨ (48 ≤ c ∧ c ≤ 57) ∨ c = 45 := of_decide_eq_true h
  by_cases h1 : (97 ≤ c ∧ c ≤ 122) ∨ (65 ≤ c ∧ c ≤ 90) ∨ c = 95 ∨ 128 ≤ c
  · exact .inl (decide_eq_true h1)
  · by_cases h2 : 48 ≤ c ∧ c ≤ 57
    · exact .inr (.inl (decide_eq_true h2))
    · exact .inr (.inr (by omega))
/-- How one written code point begins. -/
theorem idChar_form (dig lone : Bool) (c : Nat) (h : Cp c) (hl : lone = true → c = 45) (r : List Nat) : (∃ d t, idChar dig lone c ++ r = 92 :: d :: t ∧ isNl d = false) ∨ (idChar dig lone c ++ r = c :: r ∧ conts c = true ∧ lone = false ∧ ¬ (isDg c = true ∧ dig = true)) := by
  unfold idChar
  by_cases h1 : isCtl c = true ∨ (isDg c = true ∧ dig = true)
  · rw [if_pos h1]
    obtain ⟨d, t, h2, h3, _⟩ := coded_form 1 c h (by omega) r
    exact .inl ⟨d, t, by rw [codedC_app, h2], h3⟩
  · rw [if_neg h1]
    by_cases h2 : conts c = true ∧ lone = false
    · rw [if_pos h2]
      exact .inr ⟨rfl, h2.1, h2.2, fun hh => h1 (.inr hh)⟩
    · rw [if_neg h2]
      exact .inl ⟨c, r, rfl, (idChar_bk hl h1 h2 h.1).2⟩
theorem begins_identC (x : Bool) (l : List Nat) (h : ∀ c ∈ l, Cp c) (hne : l ≠ []) (he : x = true → l.head? ≠ some 101 ∧ l.head? ≠ some 69) (r : List Nat) (hr : cpAt r 0 ≠ 62) : Begins x (identC l ++ r) := by
  match l, h, hne, he with
  | [c], h, _, he =>
    show Begins x (idChar true (c == 45) c ++ r)
    rcases idChar_form true (c == 45) c (h c (by simp)) (by simp) r with ⟨d, t, h1, h2⟩ | ⟨h1, h2, h3, h4⟩
    · rw [h1]; exact begins_esc x t h2
    · rw [h1]
      rcases conts_cases h2 with hs | hs | rfl
      · exact begins_starts x r hs fun hx => ⟨fun e => (he hx).1 (by simp [e]), fun e => (he hx).2 (by simp [e])⟩
      · exact absurd ⟨hs, rfl⟩ h4
      · simp at h3
  | c :: d :: t, h, _, he =>
    show Begins x ((idChar true false c ++ idChar (c == 45) false d ++ idRest false t) ++ r)
    rw [List.append_assoc, List.append_assoc]
    rcases idChar_form true false c (h c (by simp)) (by simp) (idChar (c == 45) false d ++ (idRest false t ++ r)) with ⟨e, u, h1, h2⟩ | ⟨h1, h2, _, h4⟩
    · rw [h1]; exact begins_esc x u h2
    · rw [h1]
      rcases conts_cases h2 with hs | hs | rfl
      · exact begins_starts x _ hs fun hx => ⟨fun e => (he hx).1 (by simp [e]), fun e => (he hx).2 (by simp [e])⟩
      · exact absurd ⟨hs, rfl⟩ h4
      · rcases idChar_form true false d (h d (by simp)) (by simp) (idRest false t ++ r) with ⟨e, u, h5, h6⟩ | ⟨h5, h6, _, h7⟩
        · rw [show ((45 : Nat) == 45) = true from rfl, h5]
          exact begins_hyphen x (.inr (.inr ⟨rfl, by show (!isNl e) = true; rw [h6]; rfl⟩)) (by omega)
        · rw [show ((45 : Nat) == 45) = true from rfl, h5]
          rcases conts_cases h6 with hs | hs | rfl
          · exact begins_hyphen x (.inl hs) (by rintro rfl; exact absurd hs (by decide))
          · exact absurd ⟨hs, rfl⟩ h7
          · refine begins_hyphen x (.inr (.inl rfl)) fun _ => ?_
            cases t with
            | nil => exact hr
            | cons e u =>
              rw [idRest_cons, List.append_assoc]
              rcases idChar_form false false e (h e (by simp)) (by simp) (idRest false u ++ r) with ⟨f, v, h8, _⟩ | ⟨h8, h9, _⟩
              · rw [h8, cpAt_zero_cons]; decide
              · rw [h8, cpAt_zero_cons]
                intro h10
                have : e = 62 := by omega
                subst this
                exact absurd h9 (by decide)
theorem begins_unitC (l : List Nat) (h : ∀ c ∈ l, Cp c) (hne : l ≠ []) (r : List Nat) (hr : cpAt r 0 ≠ 62) : Begins true (unitC l ++ r) := by
  match l, h, hne with
  | c :: t, h, _ =>
    rw [unitC_cons]
    by_cases he : c = 101 ∨ c = 69
    · rw [if_pos he, List.append_assoc]
      exact begins_coded true 1 c (h c (by simp)) (by omega) _
    · rw [if_neg he]
      exact begins_identC true _ h (by simp) (fun _ => ⟨by simp; omega, by simp; omega⟩) r hr

/-! ### texts in quotes -/
theorem quotS_quoteC (q : Nat) (hq : q = 34 ∨ q = 39) : ∀ (l : List Nat), (∀ c ∈ l, Cp c) → ∀ r, quotS q (quoteC q l ++ q :: r) = (true, l, r, false)
  | [], _, r => quotS_end q r
  | c :: t, h, r => by
    have hc := h c (by simp)
    have e : quoteC q (c :: t) = quoteChar q c ++ quoteC q t := by simp [quoteC]
    have ih := quotS_quoteC q hq t (fun d hd => h d (by simp [hd])) r
    rw [e, List.append_assoc]
    unfold quoteChar
    by_cases h1 : isCtl c = true
    · obtain ⟨d, u, h2, h3, h4⟩ := coded_form 1 c hc (by omega) (quoteC q t ++ q :: r)
      rw [if_pos h1, codedC_app, h2, quotS_esc q d u (by omega) h3, h4, ih]
      rfl
    · rw [if_neg h1]
      have hc' : ¬ ((1 ≤ c ∧ c ≤ 31) ∨ c = 127) := fun hh => h1 (decide_eq_true hh)
      have := hc.1
      by_cases h2 : c = q ∨ c = 92
      · rw [if_pos h2]
        have hx : hexv c = none := hexv_none (by omega)
        have hn : isNl c = false := by simp [isNl]; omega
        show quotS q (92 :: c :: (quoteC q t ++ q :: r)) = _
        rw [quotS_esc q c _ (by omega) hn, escS_none _ hx, ih]
        rfl
      · rw [if_neg h2]
        show quotS q (c :: (quoteC q t ++ q :: r)) = _
        rw [quotS_plain q c _ (by omega) (by simp [isNl]; omega) (by omega), ih]

/-! ### addresses -/
/-- One code point of an address. -/
def addrChar (c : Nat) : List Nat := if isCtl c = true then codedC 1 c else if isWs c = true ∨ c = 34 ∨ c = 39 ∨ c = 40 ∨ c = 41 ∨ c = 92 then [92, c] else [c]
/-- spec.Address, between the brackets. -/
def addrC (l : List Nat) : List Nat := l.flatMap addrChar
theorem addrC_cons (c : Nat) (t : List Nat) : addrC (c :: t) = addrChar c ++ addrC t := by simp [addrC]
theorem urlS_addrC : ∀ (l : List Nat), (∀ c ∈ l, Cp c) → ∀ r, urlS (addrC l ++ 41 :: r) = (true, l, r, false)
  | [], _, r => urlS_end r
  | c :: t, h, r => by
    have hc := h c (by simp)
    have ih := urlS_addrC t (fun d hd => h d (by simp [hd])) r
    rw [addrC_cons, List.append_assoc]
    unfold addrChar
    by_cases h1 : isCtl c = true
    · obtain ⟨d, u, h2, h3, h4⟩ := coded_form 1 c hc (by omega) (addrC t ++ 41 :: r)
      rw [if_pos h1, codedC_app, h2, urlS_esc _ (by show (!isNl d) = true; rw [h3]; rfl), h4, ih]
      rfl
    · rw [if_neg h1]
      have hc' : ¬ ((1 ≤ c ∧ c ≤ 31) ∨ c = 127) := fun hh => h1 (decide_eq_true hh)
      have := hc.1
      by_cases h2 : isWs c = true ∨ c = 34 ∨ c = 39 ∨ c = 40 ∨ c = 41 ∨ c = 92
      · rw [if_pos h2]
        have hw : c = 32 ∨ c = 34 ∨ c = 39 ∨ c = 40 ∨ c = 41 ∨ c = 92 := by
          rcases h2 with h2 | h2
          · simp [isWs] at h2; omega
          · omega
        have hx : hexv c = none := hexv_none (by omega)
        have hn : isNl c = false := by simp [isNl]; omega
        show urlS (92 :: c :: (addrC t ++ 41 :: r)) = _
        rw [urlS_esc _ (by show (!isNl c) = true; rw [hn]; rfl), escS_none _ hx, ih]
        rfl
      · rw [if_neg h2]
        have hw : isWs c = false := by
          cases hw : isWs c
          · rfl
          · exact absurd (.inl hw) h2
        show urlS (c :: (addrC t ++ 41 :: r)) = _
        have hs : spoils c (addrC t ++ 41 :: r) = false := by
          unfold spoils
          refine decide_eq_false ?_
          rintro (h3 | h3 | h3 | h3 | h3)
          · exact h2 (.inr (.inl h3))
          · exact h2 (.inr (.inr (.inl h3)))
          · exact h2 (.inr (.inr (.inr (.inl h3))))
          · omega
          · exact h2 (.inr (.inr (.inr (.inr (.inr h3.1)))))
        rw [urlS_plain c _ (fun h3 => h2 (.inr (.inr (.inr (.inr (.inl h3)))))) hw hs (fun h3 => h2 (.inr (.inr (.inr (.inr (.inr h3)))))), ih]
theorem addrC_cp (l : List Nat) (h : ∀ c ∈ l, Cp c) : ∀ d ∈ addrC l, Cp d := by
  intro d hd
  unfold addrC at hd
  rw [List.mem_flatMap] at hd
  obtain ⟨c, hc, hd⟩ := hd
  unfold addrChar at hd
  by_cases h1 : isCtl c = true
  · rw [if_pos h1] at hd; exact codedC_cp 1 c d hd
  · rw [if_neg h1] at hd
    split at hd
    · simp at hd
      rcases hd with rfl | rfl
      · exact ⟨by omega, by omega⟩
      · exact h _ hc
    · simp at hd; subst hd; exact h _ hc
/-- How an address begins. -/
theorem addrC_first (l r : List Nat) (h : ∀ c ∈ l, Cp c) : ∀ c u, addrC l ++ 41 :: r = c :: u → isWs c = false ∧ c ≠ 34 ∧ c ≠ 39 := by
  intro c u e
  cases l with
  | nil => injection e with e1 _; subst e1; decide
  | cons d t =>
    rw [addrC_cons, List.append_assoc] at e
    unfold addrChar at e
    by_cases h1 : isCtl d = true
    · rw [if_pos h1, codedC_app] at e; injection e with e1 _; subst e1; decide
    · rw [if_neg h1] at e
      split at e
      · injection e with e1 _; subst e1; decide
      · rename_i h2
        injection e with e1 _; subst e1
        refine ⟨?_, fun h3 => h2 (.inr (.inl h3)), fun h3 => h2 (.inr (.inr (.inl h3)))⟩
        cases hw : isWs d
        · rfl
        · exact absurd (.inl hw) h2

/-! ### a number of digits, and a unit -/
theorem dgS_digits : ∀ (ds r : List Nat), (∀ d ∈ ds, isDg d = true) → (∀ c u, r = c :: u → isDg c = false) → dgS (ds ++ r) = r
  | [], r, _, hr => by
    cases r with
    | nil => rfl
    | cons c u => show dgS (c :: u) = _; rw [dgS_cons, if_neg (by rw [hr c u rfl]; decide)]
  | d :: ds, r, h, hr => by
    show dgS (d :: (ds ++ r)) = _
    rw [dgS_cons, if_pos (h d (by simp)), dgS_digits ds r (fun e he => h e (by simp [he])) hr]
theorem encs_digits (ds : List Nat) (h : ∀ d ∈ ds, isDg d = true) : (encs ds).length = ds.length := by
  induction ds with
  | nil => rfl
  | cons d t ih =>
    have hd : 48 ≤ d ∧ d ≤ 57 := of_decide_eq_true (h d (by simp))
    rw [encs_cons, List.length_append, ih fun e he => h e (by simp [he]), enc_ascii d (by omega)]
    simp; omega
theorem numS_dim (ds r : List Nat) (hd : ∀ d ∈ ds, isDg d = true) (hne : ds ≠ []) (hr : Begins true r) : numS (ds ++ r) = (r, false) ∧ identZ (cpAt r 0) (cpAt r 1) (cpAt r 2) = true := by
  obtain ⟨c, t, rfl, h1, h2, h3, h45⟩ := hr
  obtain ⟨h4, h5⟩ := h45 rfl
  have hc : isDg c = false := by
    cases hcd : isDg c
    · rfl
    · exfalso
      have : 48 ≤ c ∧ c ≤ 57 := of_decide_eq_true hcd
      unfold countZ at h2
      rw [if_neg (by omega)] at h2
      have : dgB (c : Int) = true := by unfold dgB; simp; omega
      rw [this] at h2
      simp at h2
  have h46 : c ≠ 46 := by
    rintro rfl
    unfold identZ at h1
    rw [if_neg (by decide), ss_nat, escZ_ok] at h1
    rcases Bool.or_eq_true_iff.1 h1 with h1 | h1
    · exact absurd h1 (by decide)
    · exact absurd (of_decide_eq_true h1).1 (by decide)
  refine ⟨?_, h1⟩
  unfold numS
  have hs : signS (ds ++ c :: t) = ds ++ c :: t := by
    cases ds with
    | nil => exact absurd rfl hne
    | cons d u =>
      have : 48 ≤ d ∧ d ≤ 57 := of_decide_eq_true (hd d (by simp))
      exact if_neg (by omega)
  rw [hs, dgS_digits ds (c :: t) hd (by intro e u he; injection he with he _; subst he; exact hc)]
  have hp : pointS (c :: t) = (c :: t, false) := if_neg h46
  rw [hp]
  dsimp only
  have hx : expS (c :: t) = c :: t := if_neg (by omega)
  rw [hx]
theorem numericS_dim (ds l : List Nat) (hd : ∀ d ∈ ds, isDg d = true) (hne : ds ≠ []) (h : ∀ c ∈ l, Cp c) (hl : l ≠ []) : numericS (ds ++ unitC l) = (⟨26, ds.length, false, []⟩, [], false) := by
  have hb := begins_unitC l h hl [] (by decide)
  rw [List.append_nil] at hb
  obtain ⟨h1, h2⟩ := numS_dim ds (unitC l) hd hne hb
  have h3 := nameS_unitC l h []
  rw [List.append_nil, nameS_nil] at h3
  unfold numericS
  rw [h1]
  dsimp only
  rw [if_pos h2, h3]
  have h4 : blen (ds ++ unitC l) - blen (unitC l) = ds.length := by
    unfold blen
    rw [encs_append, List.length_append, encs_digits ds hd]
    omega
  rw [h4]
  rfl
end Go.Proofs.YtmgkccnfhkcncaaGreatDoor

namespace Go.Proofs.YtmgkccnfhkcncaaGreatDoor
open Go

/-- next, where it tells nothing and meets no comment and no whitespace: kind, unit, flags, what is left. -/
def nxB (r : List UInt8) : Option (Nat × Nat × Nat × List UInt8) :=
  if hdB r = 34 ∨ hdB r = 39 then (if (strB (hdB r) (tlB r)).1 = true then some (36, 0, 0, (strB (hdB r) (tlB r)).2) else none)
  else if hdB r = 35 then (if ncB (hdB (tlB r)) = true ∨ vescB (tlB r) = true then some (28, 0, if wouldB (tlB r) = true then 1 else 0, nameR (tlB r)) else none)
  else if hdB r = 58 then some (9, 0, 0, tlB r)
  else if hdB r = 64 then (if wouldB (tlB r) = true then some (1, 0, 0, nameR (tlB r)) else none)
  else if dgB (hdB r) = true then some ((numericB r).1, (numericB r).2.1, 0, (numericB r).2.2)
  else if hdB r = 45 then
    (if cntB r = false ∧ ¬ (hdB (tlB r) = 45 ∧ hdB (tlB (tlB r)) = 62) ∧ wouldB r = true ∧ (identB r).2.1 = false then some ((identB r).1, 0, 0, (identB r).2.2) else none)
  else if hdB r = 92 then (if vescB r = true ∧ (identB r).2.1 = false then some ((identB r).1, 0, 0, (identB r).2.2) else none)
  else if nsB (hdB r) = true then (if (identB r).2.1 = false then some ((identB r).1, 0, 0, (identB r).2.2) else none)
  else none

/-! ### an identifier, a function, an address -/
theorem nxB_ident (l : List Nat) (h : ∀ c ∈ l, Cp c) (x : Bool) (hb : Begins x l) (ho : (namedS l).2.2 = false) (hk : (namedS l).1.kind ≠ 3) :
    nxB (encs l) = some ((namedS l).1.kind, 0, 0, encs (namedS l).2.1) := by
  obtain ⟨t', hi, ht'⟩ := identB_encs l h ho
  have ht := ht' hk
  obtain ⟨c, t, rfl, h1, h2, h3, _⟩ := hb
  obtain ⟨hc, hct⟩ := cps_tl h
  have e1 := hd_encs c t hc
  have e2 := tl_encs c t hc
  have hct2 : ∀ d ∈ t.tail, Cp d := fun d hd => hct d (List.mem_of_mem_tail hd)
  have hcr : c ≤ 1114111 := by unfold Cp at hc; omega
  have hc1 : 1 ≤ c := hc.1
  have hw : wouldB (encs (c :: t)) = true := by rw [wouldB_encs _ h]; exact h1
  have hcnt : cntB (encs (c :: t)) = false := by rw [cntB_encs _ h]; exact h2
  have hcdc : ¬ (hdB (tlB (encs (c :: t))) = 45 ∧ hdB (tlB (tlB (encs (c :: t)))) = 62) ∨ c ≠ 45 := by
    by_cases h45 : c = 45
    · left
      rw [e2, hdB_encs _ hct, tlB_encs _ hct, hdB_encs _ hct2]
      have : cpAt t.tail 0 = cpAt t 1 := by cases t <;> rfl
      rw [this]
      exact fun hh => h3 ⟨h45, hh⟩
    · exact .inr h45
  have hcase : c = 45 ∨ starts c = true ∨ (c = 92 ∧ escOk t = true) := by
    unfold identZ at h1
    by_cases h45 : (c : Int) = 45
    · exact .inl (by omega)
    · rw [if_neg h45, ss_nat, escZ_ok, Bool.or_eq_true, decide_eq_true_iff] at h1
      exact .inr h1
  unfold nxB
  rw [hi, ht, e1]
  rcases hcase with rfl | hs | ⟨rfl, hok⟩
  · rw [if_neg (by omega), if_neg (by omega), if_neg (by omega), if_neg (by omega), if_neg (by decide), if_pos (show ((45 : Nat) : Int) = 45 from rfl)]
    refine if_pos ?_
    exact ⟨hcnt, by rcases hcdc with hh | hh; exact hh; exact absurd rfl hh, hw, rfl⟩
  · have hs' : (97 ≤ c ∧ c ≤ 122) ∨ (65 ≤ c ∧ c ≤ 90) ∨ c = 95 ∨ 128 ≤ c := of_decide_eq_true hs
    rw [if_neg (by omega), if_neg (by omega), if_neg (by omega), if_neg (by omega), if_neg (by unfold dgB; simp; omega), if_neg (by omega), if_neg (by omega), if_pos (by rw [ns_nat c hc1]; exact hs), if_pos rfl]
  · rw [if_neg (by omega), if_neg (by omega), if_neg (by omega), if_neg (by omega), if_neg (by decide), if_neg (by omega), if_pos (show ((92 : Nat) : Int) = 92 from rfl)]
    refine if_pos ?_
    exact ⟨by rw [vescB_encs 92 t h]; exact decide_eq_true ⟨rfl, hok⟩, rfl⟩

/-- **A written identifier.** -/
theorem nx_identC (l : List Nat) (h : ∀ c ∈ l, Cp c) (hne : l ≠ []) : nxB (encs (identC l)) = some (29, 0, 0, []) := by
  have hb := begins_identC false l h hne (fun hh => by cases hh) [] (by decide)
  rw [List.append_nil] at hb
  have hn := nameS_identC l h []
  rw [List.append_nil, nameS_nil] at hn
  have hs : namedS (identC l) = (⟨29, 0, false, l⟩, [], false) := by
    unfold namedS
    rw [hn]
    simp
  rw [nxB_ident _ (identC_cp l h) false hb (by rw [hs]) (by rw [hs]; show (29 : Nat) ≠ 3; decide), hs]
  rfl
/-- **A written identifier ahead of a bracket.** -/
theorem nx_function (l : List Nat) (h : ∀ c ∈ l, Cp c) (hne : l ≠ []) (hu : isUrlC l = false) : nxB (encs (identC l ++ [40])) = some (27, 0, 0, []) := by
  have hb := begins_identC false l h hne (fun hh => by cases hh) [40] (by decide)
  have hn := nameS_identC l h [40]
  rw [nameS_paren, List.append_nil] at hn
  have hcp : ∀ c ∈ identC l ++ [40], Cp c := by
    intro c hc
    rcases List.mem_append.1 hc with hc | hc
    · exact identC_cp l h c hc
    · simp at hc; subst hc; unfold Cp; omega
  have hs : namedS (identC l ++ [40]) = (⟨27, 0, false, l⟩, [], false) := by
    unfold namedS
    rw [hn]
    dsimp only
    rw [if_neg (by simp), if_neg (by rw [hu]; simp)]
  rw [nxB_ident _ hcp false hb (by rw [hs]) (by rw [hs]; show (27 : Nat) ≠ 3; decide), hs]
  rfl
/-- **A written address.** -/
theorem nx_address (l : List Nat) (h : ∀ c ∈ l, Cp c) (ht : trimC l = true) : nxB (encs (117 :: 114 :: 108 :: 40 :: (addrC l ++ [41]))) = some (37, 0, 0, []) := by
  have hcp : ∀ c ∈ 117 :: 114 :: 108 :: 40 :: (addrC l ++ [41]), Cp c := by
    intro c hc
    simp only [List.mem_cons, List.mem_append, List.not_mem_nil, or_false] at hc
    rcases hc with rfl | rfl | rfl | rfl | hc | rfl
    · unfold Cp; omega
    · unfold Cp; omega
    · unfold Cp; omega
    · unfold Cp; omega
    · exact addrC_cp l h c hc
    · unfold Cp; omega
  have hb : Begins false (117 :: 114 :: 108 :: 40 :: (addrC l ++ [41])) := begins_starts false _ (by decide) (fun hh => by cases hh)
  have hn : nameS (117 :: 114 :: 108 :: 40 :: (addrC l ++ [41])) = ([117, 114, 108], 40 :: (addrC l ++ [41]), false) := by
    rw [nameS_conts 117 _ (by decide), nameS_conts 114 _ (by decide), nameS_conts 108 _ (by decide), nameS_paren]
  have hsp : spS (addrC l ++ [41]) = addrC l ++ [41] ∧ cpAt (addrC l ++ [41]) 0 ≠ 34 ∧ cpAt (addrC l ++ [41]) 0 ≠ 39 := by
    cases hx : addrC l ++ [41] with
    | nil => exact ⟨rfl, by decide, by decide⟩
    | cons c u =>
      obtain ⟨h1, h2, h3⟩ := addrC_first l [] h c u hx
      exact ⟨by rw [spS_cons, if_neg (by rw [h1]; decide)], by rw [cpAt_zero_cons]; omega, by rw [cpAt_zero_cons]; omega⟩
  have hs : namedS (117 :: 114 :: 108 :: 40 :: (addrC l ++ [41])) = (⟨37, 0, false, l⟩, [], false) := by
    unfold namedS
    rw [hn]
    dsimp only
    rw [if_neg (by simp), hsp.1, if_pos ⟨by decide, hsp.2⟩]
    unfold addrS
    rw [urlS_addrC l h []]
    have hb : blen (117 :: 114 :: 108 :: 40 :: (addrC l ++ [41])) - blen (40 :: (addrC l ++ [41])) = 3 := by
      unfold blen
      rw [encs_cons 117, encs_cons 114, encs_cons 108, enc_ascii 117 (by omega), enc_ascii 114 (by omega), enc_ascii 108 (by omega)]
      simp only [List.length_append, List.length_cons, List.length_nil]
      omega
    rw [hb]
    simp [ht]
  rw [nxB_ident _ hcp false hb (by rw [hs]) (by rw [hs]; show (37 : Nat) ≠ 3; decide), hs]
  rfl

/-! ### behind a sign -/
theorem cps_cons {c : Nat} {l : List Nat} (hc : Cp c) (h : ∀ d ∈ l, Cp d) : ∀ d ∈ c :: l, Cp d := by
  intro d hd
  rcases List.mem_cons.1 hd with rfl | hd
  · exact hc
  · exact h d hd
theorem begins_would {l : List Nat} {x : Bool} (h : ∀ c ∈ l, Cp c) (hb : Begins x l) : wouldB (encs l) = true := by
  obtain ⟨c, t, rfl, h1, _⟩ := hb
  rw [wouldB_encs _ h]; exact h1
/-- **A written identifier behind an at sign.** -/
theorem nx_at (l : List Nat) (h : ∀ c ∈ l, Cp c) (hne : l ≠ []) : nxB (encs (64 :: identC l)) = some (1, 0, 0, []) := by
  have h64 : Cp 64 := by unfold Cp; omega
  have hb := begins_identC false l h hne (fun hh => by cases hh) [] (by decide)
  rw [List.append_nil] at hb
  have hn := nameS_identC l h []
  rw [List.append_nil, nameS_nil] at hn
  unfold nxB
  rw [hd_encs 64 _ h64, tl_encs 64 _ h64, if_neg (by omega), if_neg (by omega), if_neg (by omega), if_pos (by rfl), if_pos (begins_would (identC_cp l h) hb), (name_encs _ (identC_cp l h) (by rw [hn])).1, hn]
  rfl
/-- A name behind a number sign. -/
theorem nx_hash (m : List Nat) (h : ∀ c ∈ m, Cp c) (l : List Nat) (hn : nameS m = (l, [], false)) (hb : ∃ c t, m = c :: t ∧ (conts c = true ∨ (c = 92 ∧ escOk t = true))) :
    nxB (encs (35 :: m)) = some (28, 0, if wouldB (encs m) = true then 1 else 0, []) := by
  have h35 : Cp 35 := by unfold Cp; omega
  unfold nxB
  rw [hd_encs 35 _ h35, tl_encs 35 _ h35, if_neg (by omega), if_pos (by rfl), if_pos (by
    obtain ⟨c, t, rfl, hc | hc⟩ := hb
    · left; rw [hd_encs c t (h c (by simp)), nc_nat c (h c (by simp)).1]; exact hc
    · right; rw [vescB_encs c t h]; exact decide_eq_true hc), (name_encs m h (by rw [hn])).1, hn]
  rfl
/-- A number of digits with a written unit. -/
theorem nx_dim (ds l : List Nat) (hd : ∀ d ∈ ds, isDg d = true) (hne : ds ≠ []) (h : ∀ c ∈ l, Cp c) (hl : l ≠ []) : nxB (encs (ds ++ unitC l)) = some (26, ds.length, 0, []) := by
  have hcp : ∀ c ∈ ds ++ unitC l, Cp c := by
    intro c hc
    rcases List.mem_append.1 hc with hc | hc
    · have : 48 ≤ c ∧ c ≤ 57 := of_decide_eq_true (hd c hc)
      unfold Cp; omega
    · exact unitC_cp l h c hc
  have hs := numericS_dim ds l hd hne h hl
  have hn := numericB_encs _ hcp (by rw [hs])
  rw [hs] at hn
  cases ds with
  | nil => exact absurd rfl hne
  | cons d u =>
    have hd1 : 48 ≤ d ∧ d ≤ 57 := of_decide_eq_true (hd d (by simp))
    have e1 : hdB (encs (d :: u ++ unitC l)) = (d : Int) := hd_encs d _ (hcp d (by simp))
    unfold nxB
    rw [e1, if_neg (by omega), if_neg (by omega), if_neg (by omega), if_neg (by omega), if_pos (by unfold dgB; simp; omega), hn]
    rfl
/-- **A text in quotes.** -/
theorem nx_quoted (q : Nat) (hq : q = 34 ∨ q = 39) (l : List Nat) (h : ∀ c ∈ l, Cp c) : nxB (encs (q :: (quoteC q l ++ [q]))) = some (36, 0, 0, []) := by
  have hqc : Cp q := by unfold Cp; omega
  have hcp : ∀ c ∈ quoteC q l ++ [q], Cp c := by
    intro c hc
    rcases List.mem_append.1 hc with hc | hc
    · exact quoteC_cp q l h c hc
    · simp at hc; subst hc; exact hqc
  have hs := quotS_quoteC q hq l h []
  have := strB_encs q hq _ (quoteC q l ++ [q]) (Nat.le_refl _) hcp (by rw [hs])
  rw [hs] at this
  unfold nxB
  rw [hd_encs q _ hqc, tl_encs q _ hqc, if_pos (by omega), this]
  rfl
end Go.Proofs.YtmgkccnfhkcncaaGreatDoor
