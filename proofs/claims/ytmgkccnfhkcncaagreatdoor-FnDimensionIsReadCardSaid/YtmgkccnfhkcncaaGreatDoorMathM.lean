/-
  Plain Lean, no program: on code points css_lexer's lexer is the reference's, where nothing is left open.
-/
import Derived.Test.YtmgkccnfhkcncaaGreatDoorMathL
namespace Go.Proofs.YtmgkccnfhkcncaaGreatDoor
open Go

theorem hd_encs (c : Nat) (t : List Nat) (h : Cp c) : hdB (encs (c :: t)) = (c : Int) := by rw [hdB_cons (encs_cons_ne c t), dec_encs c h]
theorem tl_encs (c : Nat) (t : List Nat) (h : Cp c) : tlB (encs (c :: t)) = encs t := by unfold tlB; rw [dec_encs c h]; exact drop_encs c t
theorem cps_tl {c : Nat} {t : List Nat} (h : ∀ d ∈ c :: t, Cp d) : Cp c ∧ ∀ d ∈ t, Cp d := ⟨h c (by simp), fun d hd => h d (by simp [hd])⟩
theorem spcB_encs : ∀ l : List Nat, (∀ c ∈ l, Cp c) → spcB (encs l) = encs (spS l)
  | [], _ => rfl
  | c :: t, h => by
    obtain ⟨hc, ht⟩ := cps_tl h
    rw [spS_cons]
    by_cases hw : isWs c = true
    · rw [if_pos hw, spcB_go (by rw [hd_encs c t hc, sp_nat]; exact hw), tl_encs c t hc]
      exact spcB_encs t ht
    · rw [if_neg hw, spcB_stop (by rw [hd_encs c t hc, sp_nat]; simpa using hw)]
theorem dgsB_encs : ∀ l : List Nat, (∀ c ∈ l, Cp c) → dgsB (encs l) = encs (dgS l)
  | [], _ => rfl
  | c :: t, h => by
    obtain ⟨hc, ht⟩ := cps_tl h
    rw [dgS_cons]
    by_cases hw : isDg c = true
    · rw [if_pos hw, dgsB_go (by rw [hd_encs c t hc, dg_nat]; exact hw), tl_encs c t hc]
      exact dgsB_encs t ht
    · rw [if_neg hw, dgsB_stop (by rw [hd_encs c t hc, dg_nat]; simpa using hw)]
theorem spS_cp : ∀ l : List Nat, (∀ c ∈ l, Cp c) → ∀ c ∈ spS l, Cp c
  | [], _ => fun _ h => absurd h (by simp [spS])
  | c :: t, h => by
    rw [spS_cons]
    by_cases hw : isWs c = true
    · rw [if_pos hw]; exact spS_cp t (cps_tl h).2
    · rw [if_neg hw]; exact h
theorem dgS_cp : ∀ l : List Nat, (∀ c ∈ l, Cp c) → ∀ c ∈ dgS l, Cp c
  | [], _ => fun _ h => absurd h (by simp [dgS])
  | c :: t, h => by
    rw [dgS_cons]
    by_cases hw : isDg c = true
    · rw [if_pos hw]; exact dgS_cp t (cps_tl h).2
    · rw [if_neg hw]; exact h

/-! ### numbers -/
theorem digAt_zero (r : List UInt8) : digAt r 0 = dgB (hdB r) := by
  match r with
  | [] => rfl
  | x :: t => exact digU_hd
theorem dotAt_zero (r : List UInt8) : dotAt r 0 = decide (hdB r = 46) := by
  match r with
  | [] => rfl
  | x :: t =>
    show decide (x.toNat = 46) = _
    by_cases hx : x.toNat < 128
    · rw [hdB_ascii hx]; rw [Bool.eq_iff_iff, decide_eq_true_iff, decide_eq_true_iff]; omega
    · have := hdB_high (t := t) (by omega : 128 ≤ x.toNat)
      rw [Bool.eq_iff_iff, decide_eq_true_iff, decide_eq_true_iff]; omega
theorem pmAt_zero (r : List UInt8) : pmAt r 0 = decide (hdB r = 43 ∨ hdB r = 45) := by
  match r with
  | [] => rfl
  | x :: t =>
    show decide (x.toNat = 43 ∨ x.toNat = 45) = _
    by_cases hx : x.toNat < 128
    · rw [hdB_ascii hx]; rw [Bool.eq_iff_iff, decide_eq_true_iff, decide_eq_true_iff]; omega
    · have := hdB_high (t := t) (by omega : 128 ≤ x.toNat)
      rw [Bool.eq_iff_iff, decide_eq_true_iff, decide_eq_true_iff]; omega
theorem digAt_one {r : List UInt8} {c : Nat} (h : hdB r = (c : Int)) (hc : c < 128) : digAt r 1 = dgB (hdB (tlB r)) := by
  obtain ⟨x, t, rfl, _, ht, _⟩ := hdB_low h hc
  rw [ht, ← digAt_zero]
  rfl
theorem cntB_encs (l : List Nat) (h : ∀ c ∈ l, Cp c) : cntB (encs l) = countZ (cpAt l 0) (cpAt l 1) (cpAt l 2) := by
  unfold cntB countZ
  rw [hdB_encs l h, tlB_encs l h, digAt_zero, dotAt_zero]
  have ht : ∀ c ∈ l.tail, Cp c := fun c hc => h c (List.mem_of_mem_tail hc)
  rw [hdB_encs _ ht]
  have e1 : cpAt l.tail 0 = cpAt l 1 := by cases l <;> rfl
  have e2 : cpAt l.tail.tail 0 = cpAt l 2 := by
    match l with
    | [] => rfl
    | [_] => rfl
    | _ :: _ :: _ => rfl
  rw [e1]
  by_cases h1 : dgB (cpAt l 0) = true
  · have h1' : 48 ≤ cpAt l 0 ∧ cpAt l 0 ≤ 57 := of_decide_eq_true h1
    rw [if_pos h1, if_neg (by omega), h1]; rfl
  · have h1' : dgB (cpAt l 0) = false := by simpa using h1
    rw [if_neg h1]
    by_cases h2 : cpAt l 0 = 46
    · rw [if_pos h2, if_neg (by omega), h1', decide_eq_true h2]; rfl
    · rw [if_neg h2]
      by_cases h3 : cpAt l 0 = 43 ∨ cpAt l 0 = 45
      · rw [if_pos h3, if_pos h3]
        by_cases h4 : cpAt l 1 = 46
        · have h5 : hdB (encs l.tail) = ((46 : Nat) : Int) := by rw [hdB_encs _ ht, e1, h4]; rfl
          rw [digAt_one h5 (by decide), tlB_encs _ ht, hdB_encs _ (fun c hc => ht c (List.mem_of_mem_tail hc)), e2]
        · rw [decide_eq_false h4]; simp
      · rw [if_neg h3, if_neg h3, h1', decide_eq_false h2]; rfl
theorem signS_cons (c : Nat) (t : List Nat) : signS (c :: t) = if c = 43 ∨ c = 45 then t else c :: t := rfl
theorem signB_encs (l : List Nat) (h : ∀ c ∈ l, Cp c) : signB (encs l) = encs (signS l) := by
  unfold signB
  cases l with
  | nil => rfl
  | cons c t =>
    rw [hd_encs c t (cps_tl h).1, tl_encs c t (cps_tl h).1]
    show _ = encs (if c = 43 ∨ c = 45 then t else c :: t)
    by_cases hc : c = 43 ∨ c = 45
    · rw [if_pos hc, if_pos (by omega)]
    · rw [if_neg hc, if_neg (by omega)]
theorem signS_cp (l : List Nat) (h : ∀ c ∈ l, Cp c) : ∀ c ∈ signS l, Cp c := by
  cases l with
  | nil => exact h
  | cons c t =>
    show ∀ d ∈ (if c = 43 ∨ c = 45 then t else c :: t), Cp d
    by_cases hc : c = 43 ∨ c = 45
    · rw [if_pos hc]; exact (cps_tl h).2
    · rw [if_neg hc]; exact h
theorem pointS_cons (c : Nat) (t : List Nat) : pointS (c :: t) = if c = 46 then (if dgB (cpAt t 0) = true then (dgS t, false) else (c :: t, true)) else (c :: t, false) := rfl
theorem expS_cons (c : Nat) (t : List Nat) : expS (c :: t) = if c = 101 ∨ c = 69 then (if dgB (cpAt t 0) = true ∨ ((cpAt t 0 = 43 ∨ cpAt t 0 = 45) ∧ dgB (cpAt t 1) = true) then dgS t.tail else c :: t) else c :: t := rfl
theorem pointB_encs (l : List Nat) (h : ∀ c ∈ l, Cp c) (ho : (pointS l).2 = false) : pointB (encs l) = encs (pointS l).1 := by
  unfold pointB
  cases l with
  | nil => rfl
  | cons c t =>
    obtain ⟨hc, ht⟩ := cps_tl h
    rw [hd_encs c t hc, tl_encs c t hc]
    rw [pointS_cons] at ho ⊢
    by_cases h1 : c = 46
    · rw [if_pos h1] at ho ⊢
      rw [if_pos (by omega)]
      by_cases h2 : dgB (cpAt t 0) = true
      · rw [if_pos h2]; exact dgsB_encs t ht
      · rw [if_neg h2] at ho; cases ho
    · rw [if_neg h1, if_neg (by omega)]
theorem pointS_cp (l : List Nat) (h : ∀ c ∈ l, Cp c) : ∀ c ∈ (pointS l).1, Cp c := by
  cases l with
  | nil => exact h
  | cons c t =>
    rw [pointS_cons]
    split
    · split
      · exact dgS_cp t (cps_tl h).2
      · exact h
    · exact h
theorem expB_encs (l : List Nat) (h : ∀ c ∈ l, Cp c) : expB (encs l) = encs (expS l) := by
  unfold expB
  cases l with
  | nil => rfl
  | cons c t =>
    obtain ⟨hc, ht⟩ := cps_tl h
    rw [hd_encs c t hc, tl_encs c t hc]
    rw [expS_cons]
    by_cases h1 : c = 101 ∨ c = 69
    · rw [if_pos h1]
      have hex : expLook (encs t) = decide (dgB (cpAt t 0) = true ∨ ((cpAt t 0 = 43 ∨ cpAt t 0 = 45) ∧ dgB (cpAt t 1) = true)) := by
        unfold expLook
        rw [pmAt_zero, hdB_encs t ht, digAt_zero, hdB_encs t ht]
        by_cases h2 : cpAt t 0 = 43 ∨ cpAt t 0 = 45
        · have hd0 : dgB (cpAt t 0) = false := by unfold dgB; exact decide_eq_false (by omega)
          cases t with
          | nil => simp [cpAt_nil] at h2
          | cons d u =>
            obtain ⟨hd, hu⟩ := cps_tl ht
            have h5 : hdB (encs (d :: u)) = (d : Int) := hd_encs d u hd
            rw [cpAt_zero_cons] at h2 hd0
            rw [cpAt_zero_cons, cpAt_succ_cons, hd0]
            by_cases h3 : 1 < (encs (d :: u)).length
            · rw [if_pos ⟨decide_eq_true h2, h3⟩, digAt_one h5 (by omega), tl_encs d u hd, hdB_encs u hu]
              rw [Bool.eq_iff_iff, decide_eq_true_iff]
              constructor
              · exact fun hh => .inr ⟨h2, hh⟩
              · rintro (hh | hh)
                · cases hh
                · exact hh.2
            · rw [if_neg (fun hh => h3 hh.2)]
              have hu0 : u = [] := by
                rw [encs_cons, List.length_append] at h3
                have := (enc_len d).1
                have := encs_len_le u
                exact List.eq_nil_of_length_eq_zero (by omega)
              subst hu0
              rw [cpAt_nil]
              symm
              refine decide_eq_false ?_
              rintro (hh | hh)
              · cases hh
              · exact absurd hh.2 (by decide)
        · rw [if_neg (fun hh => h2 (of_decide_eq_true hh.1))]
          rw [Bool.eq_iff_iff, decide_eq_true_iff]
          constructor
          · exact fun hh => .inl hh
          · rintro (hh | hh)
            · exact hh
            · exact absurd hh.1 h2
      rw [hex]
      by_cases h2 : dgB (cpAt t 0) = true ∨ ((cpAt t 0 = 43 ∨ cpAt t 0 = 45) ∧ dgB (cpAt t 1) = true)
      · rw [if_pos h2, if_pos ⟨by omega, decide_eq_true h2⟩, signB_encs t ht, dgsB_encs _ (signS_cp t ht)]
        congr 1
        cases t with
        | nil => rfl
        | cons d u =>
          rw [signS_cons]
          by_cases h3 : d = 43 ∨ d = 45
          · rw [if_pos h3]; rfl
          · rw [if_neg h3, dgS_cons]
            rw [cpAt_zero_cons] at h2
            rcases h2 with h2 | h2
            · rw [if_pos (by rw [← dg_nat]; exact h2)]; rfl
            · exact absurd h2.1 (by omega)
      · rw [if_neg h2, if_neg (fun hh => h2 (of_decide_eq_true hh.2))]
    · rw [if_neg h1, if_neg (by omega)]
theorem expS_cp (l : List Nat) (h : ∀ c ∈ l, Cp c) : ∀ c ∈ expS l, Cp c := by
  cases l with
  | nil => exact h
  | cons c t =>
    rw [expS_cons]
    split
    · split
      · exact dgS_cp _ (fun d hd => (cps_tl h).2 d (List.mem_of_mem_tail hd))
      · exact h
    · exact h
theorem numB_encs (l : List Nat) (h : ∀ c ∈ l, Cp c) (ho : (numS l).2 = false) : numB (encs l) = encs (numS l).1 := by
  unfold numB numS
  unfold numS at ho
  have h1 := dgS_cp _ (signS_cp l h)
  rw [signB_encs l h, dgsB_encs _ (signS_cp l h), pointB_encs _ h1 ho, expB_encs _ (pointS_cp _ h1)]
theorem numS_cp (l : List Nat) (h : ∀ c ∈ l, Cp c) : ∀ c ∈ (numS l).1, Cp c := expS_cp _ (pointS_cp _ (dgS_cp _ (signS_cp l h)))

/-! ### names -/
theorem contB_nat {c : Nat} (h : c < 128) (h1 : 1 ≤ c) : contB c.toUInt8 = conts c := by
  unfold contB
  have : c.toUInt8.toNat = c := by simp; omega
  rw [this, nc_nat c h1]
theorem contB_high {x : UInt8} (h : 128 ≤ x.toNat) : contB x = true := by
  have h1 : nsB (x.toNat : Int) = true := by unfold nsB; simp; omega
  unfold contB ncB
  rw [h1]; rfl
/-- The code points of a name ahead of what ends it or of an escape. -/
def cS : List Nat → List Nat
  | [] => []
  | c :: t => if conts c = true then cS t else c :: t
theorem cS_cons (c : Nat) (t : List Nat) : cS (c :: t) = if conts c = true then cS t else c :: t := rfl
theorem cS_cp : ∀ l : List Nat, (∀ c ∈ l, Cp c) → ∀ c ∈ cS l, Cp c
  | [], _ => fun _ h => absurd h (by simp [cS])
  | c :: t, h => by
    rw [cS_cons]
    by_cases hw : conts c = true
    · rw [if_pos hw]; exact cS_cp t (cps_tl h).2
    · rw [if_neg hw]; exact h
theorem dropWhile_app {α : Type} (p : α → Bool) : ∀ (a b : List α), (∀ x ∈ a, p x = true) → (a ++ b).dropWhile p = b.dropWhile p
  | [], _, _ => rfl
  | x :: a, b, h => by
    rw [List.cons_append, List.dropWhile_cons, if_pos (h x (by simp))]
    exact dropWhile_app p a b fun y hy => h y (by simp [hy])
theorem contB_encs : ∀ l : List Nat, (∀ c ∈ l, Cp c) → (encs l).dropWhile contB = encs (cS l)
  | [], _ => rfl
  | c :: t, h => by
    obtain ⟨hc, ht⟩ := cps_tl h
    rw [cS_cons, encs_cons]
    by_cases h128 : c < 128
    · rw [enc_ascii c h128]
      show (c.toUInt8 :: encs t).dropWhile contB = _
      rw [List.dropWhile_cons, contB_nat h128 hc.1]
      by_cases hw : conts c = true
      · rw [if_pos hw, if_pos hw]; exact contB_encs t ht
      · rw [if_neg hw, if_neg hw, encs_cons, enc_ascii c h128]; rfl
    · have hw : conts c = true := decide_eq_true (by omega)
      rw [if_pos hw, dropWhile_app contB (enc c) (encs t) (fun x hx => contB_high (enc_high c (by omega) x hx))]
      exact contB_encs t ht
theorem fastB_encs (l : List Nat) (h : ∀ c ∈ l, Cp c) : fastB (encs l) = encs (cS l) := by
  unfold fastB
  cases l with
  | nil => rfl
  | cons c t =>
    obtain ⟨hc, ht⟩ := cps_tl h
    rw [hd_encs c t hc, tl_encs c t hc, nc_nat c hc.1, cS_cons]
    by_cases hw : conts c = true
    · rw [if_pos hw, if_pos hw]; exact contB_encs t ht
    · rw [if_neg hw, if_neg hw]
theorem escTail_ws (l r : List Nat) (h : escTail l = (r, false)) : dropWsC l = r := by
  cases l with
  | nil => exact (Prod.mk.inj h).1
  | cons d u =>
    rw [escTail_cons] at h
    rw [dropWsC_cons]
    by_cases h1 : isNl d = true
    · rw [if_pos h1] at h; simp at h
    · rw [if_neg h1] at h
      by_cases h2 : isWs d = true
      · rw [if_pos h2] at h ⊢; exact (Prod.mk.inj h).1
      · rw [if_neg h2] at h ⊢; exact (Prod.mk.inj h).1
theorem escV_encs (t : List Nat) (h : ∀ c ∈ t, Cp c) (ho : (escS t).2.2 = false) : escV (encs (92 :: t)) = ((escS t).1, encs (escS t).2.1) := by
  have h92 : Cp 92 := by unfold Cp; omega
  unfold escV
  rw [tl_encs 92 t h92]
  cases t with
  | nil => exact absurd ho (by decide)
  | cons d u =>
    obtain ⟨hd, hu⟩ := cps_tl h
    have h0 : ¬ hdB (encs (d :: u)) = -1 := by rw [hd_encs d u hd]; omega
    rw [if_neg h0, dec_encs d hd, tl_encs d u hd]
    dsimp only
    cases hx : hexv d with
    | none => rw [escS_none u hx]
    | some x =>
      rw [escS_some u hx] at ho ⊢
      dsimp only at ho ⊢
      rw [hexRunB_encs 5 x u hu]
      dsimp only
      rw [dropWsB_encs _ (hexRunC_cp 5 x u hu), escTail_ws (hexRunC 5 x u).2 (escTail (hexRunC 5 x u).2).1 (Prod.ext rfl ho)]
theorem nloopB_encs : ∀ (n : Nat) (l : List Nat), l.length ≤ n → (∀ c ∈ l, Cp c) → (nameS l).2.2 = false → nloopB (encs l) = (encs (nameS l).1, encs (nameS l).2.1) := by
  intro n
  induction n with
  | zero =>
    intro l hn h ho
    have : l = [] := List.eq_nil_of_length_eq_zero (by omega)
    subst this
    exact nloopB_stop (by decide) (by decide)
  | succ n ih =>
    intro l hn h ho
    match l, hn, h, ho with
    | [], _, _, _ => exact nloopB_stop (by decide) (by decide)
    | c :: t, hn, h, ho =>
      obtain ⟨hc, ht⟩ := cps_tl h
      simp only [List.length_cons] at hn
      have e1 : ncB (hdB (encs (c :: t))) = conts c := by rw [hd_encs c t hc, nc_nat c hc.1]
      by_cases h1 : conts c = true
      · rw [nameS_conts c t h1] at ho ⊢
        rw [nloopB_conts (e1.trans h1), tl_encs c t hc, ih t (by omega) ht ho, hd_encs c t hc]
        dsimp only
        rw [encs_cons]; rfl
      · by_cases h2 : c = 92 ∧ escOk t = true
        · obtain ⟨rfl, h2⟩ := h2
          rw [nameS_esc t h2, Bool.or_eq_false_iff] at ho
          rw [nameS_esc t h2]
          have hl := escS_len t
          have hp := escS_cp t ht
          rw [nloopB_esc (by rw [e1]; exact h1) (by rw [vescB_encs 92 t h]; exact decide_eq_true ⟨rfl, h2⟩), escV_encs t ht ho.1]
          dsimp only
          rw [ih _ (by omega) hp.2 ho.2, encs_cons]; rfl
        · rw [nameS_stop c t h1 h2]
          exact nloopB_stop (by rw [e1]; exact h1) (by rw [vescB_encs c t h, decide_eq_true_iff]; exact h2)
/-- What nameS does with the code points ahead of the first escape. -/
theorem nameS_cS : ∀ l : List Nat, ∃ p, l = p ++ cS l ∧ nameS l = (p ++ (nameS (cS l)).1, (nameS (cS l)).2.1, (nameS (cS l)).2.2)
  | [] => ⟨[], rfl, rfl⟩
  | c :: t => by
    rw [cS_cons]
    by_cases hw : conts c = true
    · rw [if_pos hw, nameS_conts c t hw]
      obtain ⟨p, h1, h2⟩ := nameS_cS t
      exact ⟨c :: p, by rw [List.cons_append, ← h1], by rw [h2]; rfl⟩
    · rw [if_neg hw]; exact ⟨[], rfl, rfl⟩
theorem cS_stop : ∀ (l : List Nat) (c : Nat) (t : List Nat), cS l = c :: t → conts c = false
  | [], _, _, h => by cases h
  | d :: u, c, t, h => by
    rw [cS_cons] at h
    by_cases hw : conts d = true
    · rw [if_pos hw] at h; exact cS_stop u c t h
    · rw [if_neg hw] at h
      obtain ⟨rfl, _⟩ := List.cons.inj h
      simpa using hw
theorem name_encs (l : List Nat) (h : ∀ c ∈ l, Cp c) (ho : (nameS l).2.2 = false) : nameR (encs l) = encs (nameS l).2.1 ∧ nameW (encs l) = encs (nameS l).1 := by
  obtain ⟨p, hp, hn⟩ := nameS_cS l
  have hcp := cS_cp l h
  rw [hn] at ho ⊢
  have htake : (encs l).take ((encs l).length - (encs (cS l)).length) = encs p := by
    have e : encs l = encs p ++ encs (cS l) := by rw [← encs_append, ← hp]
    rw [e, List.length_append, Nat.add_sub_cancel, List.take_left']
    rfl
  unfold nameR nameW
  rw [fastB_encs l h, htake]
  cases hc : cS l with
  | nil =>
    rw [hc] at ho
    rw [if_neg (by decide), if_neg (by decide)]
    exact ⟨rfl, by rw [nameS_nil, List.append_nil, List.append_nil]⟩
  | cons c t =>
    rw [hc] at ho hcp
    have hst := cS_stop l c t hc
    obtain ⟨hcc, ht⟩ := cps_tl hcp
    rw [vescB_encs c t hcp]
    by_cases h2 : c = 92 ∧ escOk t = true
    · obtain ⟨rfl, h2⟩ := h2
      rw [if_pos (decide_eq_true ⟨rfl, h2⟩), if_pos (decide_eq_true ⟨rfl, h2⟩)]
      rw [nameS_esc t h2, Bool.or_eq_false_iff] at ho
      rw [nameS_esc t h2, escV_encs t ht ho.1]
      dsimp only
      rw [nloopB_encs _ _ (Nat.le_refl _) (escS_cp t ht).2 ho.2]
      refine ⟨rfl, ?_⟩
      rw [encs_append, encs_cons]; rfl
    · rw [if_neg (fun e => h2 (of_decide_eq_true e)), if_neg (fun e => h2 (of_decide_eq_true e))]
      rw [nameS_stop c t (by rw [hst]; decide) h2, List.append_nil, List.append_nil]
      exact ⟨rfl, rfl⟩
end Go.Proofs.YtmgkccnfhkcncaaGreatDoor
