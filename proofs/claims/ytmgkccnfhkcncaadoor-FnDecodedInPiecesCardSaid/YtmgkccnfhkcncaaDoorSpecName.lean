/-
  The reference's lexer: newline, spaces, digits, escape, name; identifies.
-/
import Derived.Test.YtmgkccnfhkcncaaDoorEncoded
import Derived.Test.YtmgkccnfhkcncaaDoorIdentZ
namespace Go.Proofs.YtmgkccnfhkcncaaDoor
open Go.RowKit

theorem SR.below {b : Nat} {s : ByteArray} {l : List Nat} {cv : Value} {o : Bool} {w w' : World} (h : SR b s l cv o w) (hb : Below w.heap.size w w') : SR b s l cv o w' := by
  obtain ⟨k, hA, hL⟩ := h
  refine ⟨k, hA, ?_⟩
  have := hL.lt
  unfold SL at *
  rw [hb.block b this, hL]
theorem SR.open' {b : Nat} {s : ByteArray} {l : List Nat} {cv : Value} {o : Bool} {w : World} (h : SR b s l cv o w) (o' : Bool) : SR b s l cv o' (w.setCell ⟨b, 3, none⟩ (.bool o')) := by
  obtain ⟨k, hA, hL⟩ := h
  exact ⟨k, hA, hL.setOpen o'⟩
theorem SR.fz {b : Nat} {s : ByteArray} {l : List Nat} {cv : Value} {o : Bool} {w : World} (h : SR b s l cv o w) (i : Nat) : w.frozen? ⟨b, i, none⟩ = false := by
  obtain ⟨k, hA, hL⟩ := h
  exact hL.fz i
theorem SR.c3 {b : Nat} {s : ByteArray} {l : List Nat} {cv : Value} {o : Bool} {w : World} (h : SR b s l cv o w) : w.cell? ⟨b, 3, none⟩ = some (.bool o) := by
  obtain ⟨k, hA, hL⟩ := h
  exact hL.c3
theorem SR.cp {b : Nat} {s : ByteArray} {l : List Nat} {cv : Value} {o : Bool} {w : World} (h : SR b s l cv o w) : ∀ c ∈ l, Cp c := by
  obtain ⟨k, hA, hL⟩ := h
  exact hA.cp
/-- How many bytes the lexer b has still to come. -/
def leftOf (b : Nat) (s : ByteArray) (w : World) : Nat := match w.cell? ⟨b, 1, none⟩ with | some v => s.size - (intOf v).toNat | none => 0
theorem SR.left {b : Nat} {s : ByteArray} {l : List Nat} {cv : Value} {o : Bool} {w : World} (h : SR b s l cv o w) : leftOf b s w = (encs l).length := by
  obtain ⟨k, hA, hL⟩ := h
  unfold leftOf
  rw [hL.c1]
  have := hA.size
  show s.size - (intOf (.int .i64 (k : Int))).toNat = _
  simp [intOf]; omega
theorem encs_lt (c : Nat) (t : List Nat) : (encs t).length < (encs (c :: t)).length := by
  rw [encs_cons, List.length_append]; have := enc_len c; omega
theorem encs_cons_len (c : Nat) (t : List Nat) : (encs (c :: t)).length = (enc c).length + (encs t).length := by rw [encs_cons, List.length_append]

theorem peekZ (z : Int) (b : Nat) (s : ByteArray) (l : List Nat) (cv : Value) (o : Bool) (w : World) (h : SR b s l cv o w) (j : Nat) (hz : z = (j : Int)) (hj : j ≤ 3) :
    Calls Tryd.prog 28 #[.pointer (some ⟨b, 0, none⟩), .int .i64 z] w fun e w' => e = .returned (.int .i64 (cpAt l j)) ∧ w' = w := by subst hz; exact peekL b s l cv o w h j hj
theorem peek0 (b : Nat) (s : ByteArray) (l : List Nat) (cv : Value) (o : Bool) (w : World) (h : SR b s l cv o w) :
    Calls Tryd.prog 28 #[.pointer (some ⟨b, 0, none⟩), .int .i64 0] w fun e w' => e = .returned (.int .i64 (cpAt l 0)) ∧ w' = w := peekZ 0 b s l cv o w h 0 rfl (by omega)
theorem peek1 (b : Nat) (s : ByteArray) (l : List Nat) (cv : Value) (o : Bool) (w : World) (h : SR b s l cv o w) :
    Calls Tryd.prog 28 #[.pointer (some ⟨b, 0, none⟩), .int .i64 1] w fun e w' => e = .returned (.int .i64 (cpAt l 1)) ∧ w' = w := peekZ 1 b s l cv o w h 1 rfl (by omega)
theorem peek2 (b : Nat) (s : ByteArray) (l : List Nat) (cv : Value) (o : Bool) (w : World) (h : SR b s l cv o w) :
    Calls Tryd.prog 28 #[.pointer (some ⟨b, 0, none⟩), .int .i64 2] w fun e w' => e = .returned (.int .i64 (cpAt l 2)) ∧ w' = w := peekZ 2 b s l cv o w h 2 rfl (by omega)
theorem peek3 (b : Nat) (s : ByteArray) (l : List Nat) (cv : Value) (o : Bool) (w : World) (h : SR b s l cv o w) :
    Calls Tryd.prog 28 #[.pointer (some ⟨b, 0, none⟩), .int .i64 3] w fun e w' => e = .returned (.int .i64 (cpAt l 3)) ∧ w' = w := peekZ 3 b s l cv o w h 3 rfl (by omega)
theorem take_cons (b : Nat) (s : ByteArray) (c : Nat) (t : List Nat) (cv : Value) (o : Bool) (w : World) (h : SR b s (c :: t) cv o w) :
    Calls Tryd.prog 42 #[.pointer (some ⟨b, 0, none⟩)] w fun e w' => e = .returned (.int .i64 (c : Int)) ∧ SR b s t cv o w' ∧ Fr b w w' := takeL b s (c :: t) cv o w h
theorem take_nil (b : Nat) (s : ByteArray) (cv : Value) (o : Bool) (w : World) (h : SR b s [] cv o w) :
    Calls Tryd.prog 42 #[.pointer (some ⟨b, 0, none⟩)] w fun e w' => e = .returned (.int .i64 (-1)) ∧ SR b s [] cv o w' ∧ Fr b w w' := takeL b s [] cv o w h

set_option maxHeartbeats 2000000 in
set_option maxRecDepth 100000 in
theorem newlineL (b : Nat) (s : ByteArray) (l : List Nat) (cv : Value) (o : Bool) (w : World) (h : SR b s l cv o w) :
    Calls Tryd.prog 52 #[.pointer (some ⟨b, 0, none⟩)] w fun e w' => e = .returned (.tuple #[]) ∧ SR b s (nlS l) cv o w' ∧ Fr b w w' := by
  cases l with
  | nil =>
    go_enter Tryd.func52, Tryd.ntmps52
    go_wp2_with fail
    refine (take_nil b s cv o w h).mono ?_
    rintro e w1 ⟨rfl, h1, f1⟩
    go_wp2
    go_end0
    exact ⟨rfl, h1, f1⟩
  | cons c t =>
    by_cases hc : c = 13
    · subst hc
      cases t with
      | nil =>
        go_enter Tryd.func52, Tryd.ntmps52
        go_wp2_with fail
        refine (take_cons b s 13 [] cv o w h).mono ?_
        rintro e w1 ⟨rfl, h1, f1⟩
        go_wp2_with fail
        refine (peek0 b s [] cv o w1 h1).mono ?_
        rintro e w' ⟨rfl, rfl⟩
        go_wp2
        go_end0
        exact ⟨rfl, h1, f1⟩
      | cons d u =>
        have P0 := Lib.hid (fun w h => peek0 b s (d :: u) cv o w h)
        rw [cpAt_zero_cons] at P0
        by_cases hd : d = 10
        · subst hd
          go_enter Tryd.func52, Tryd.ntmps52
          go_wp2_with fail
          refine (take_cons b s 13 (10 :: u) cv o w h).mono ?_
          rintro e w1 ⟨rfl, h1, f1⟩
          go_wp2_with fail
          refine (P0.out w1 h1).mono ?_
          rintro e w' ⟨rfl, rfl⟩
          go_wp2_with fail
          refine (take_cons b s 10 u cv o _ h1).mono ?_
          rintro e w2 ⟨rfl, h2, f2⟩
          go_wp2
          go_end0
          exact ⟨rfl, h2, f1.trans f2⟩
        · have t1 : ((d : Int) == 10) = false := beq_eq_false_iff_ne.2 (by omega)
          have hfin : nlS (13 :: d :: u) = d :: u := by rw [nlS_cons, if_pos rfl, dropLfC_cons, if_neg hd]
          rw [hfin]
          clear hfin hd
          go_enter Tryd.func52, Tryd.ntmps52
          go_wp2_with fail
          refine (take_cons b s 13 (d :: u) cv o w h).mono ?_
          rintro e w1 ⟨rfl, h1, f1⟩
          go_wp2_with fail
          refine (P0.out w1 h1).mono ?_
          rintro e w' ⟨rfl, rfl⟩
          go_wp2
          go_end0
          exact ⟨rfl, h1, f1⟩
    · have t1 : ((c : Int) == 13) = false := beq_eq_false_iff_ne.2 (by omega)
      have hfin : nlS (c :: t) = t := by rw [nlS_cons, if_neg hc]
      rw [hfin]
      clear hfin hc
      go_enter Tryd.func52, Tryd.ntmps52
      go_wp2_with fail
      refine (take_cons b s c t cv o w h).mono ?_
      rintro e w1 ⟨rfl, h1, f1⟩
      go_wp2
      go_end0
      exact ⟨rfl, h1, f1⟩

/-- The lexer b stands ahead of what F makes the same of as of l; nothing else turned. -/
def FRel {α : Type} (F : List Nat → α) (b : Nat) (s : ByteArray) (l : List Nat) (cv : Value) (o : Bool) (w0 w : World) : Prop := ∃ r, SR b s r cv o w ∧ Fr b w0 w ∧ F r = F l

set_option maxHeartbeats 2000000 in
set_option maxRecDepth 100000 in
theorem spacesL (b : Nat) (s : ByteArray) (l : List Nat) (cv : Value) (o : Bool) (w : World) (h : SR b s l cv o w) :
    Calls Tryd.prog 58 #[.pointer (some ⟨b, 0, none⟩)] w fun e w' => e = .returned (.tuple #[]) ∧ SR b s (spS l) cv o w' ∧ Fr b w w' := by
  have H := Lib.hid (show FRel spS b s l cv o w w from ⟨l, h, Fr.refl b w, rfl⟩)
  have P := Lib.hid (fun l w h => peek0 b s l cv o w h)
  have K := Lib.hid (fun c t w h => take_cons b s c t cv o w h)
  clear h
  go_enter Tryd.func58, Tryd.ntmps58
  go_wp2_with fail
  go_loopw [] (fun wr => FRel spS b s l cv o w wr) (fun wr => leftOf b s wr)
  case atStart => exact H.out
  case round =>
    obtain ⟨r, hr, hf, hF⟩ := hrel
    cases r with
    | nil =>
      have S := Lib.hid (fun w => specSpace (-1) w)
      go_wp2_with fail
      refine (P.out _ _ hr).mono ?_
      rintro e w' ⟨rfl, rfl⟩
      go_wp2_with (go_at_call 53; refine (S.out _).mono ?_; rintro e w' ⟨rfl, rfl⟩)
      go_end0
      exact ⟨rfl, by rw [← hF]; exact hr, hf⟩
    | cons c t =>
      have S := Lib.hid (fun w => specSpace (c : Int) w)
      rw [sp_nat] at S
      have P0 := Lib.hid (P.out (c :: t) _ hr)
      rw [cpAt_zero_cons] at P0
      rw [spS_cons] at hF
      cases hc : isWs c with
      | true =>
        rw [hc] at S hF
        rw [if_pos rfl] at hF
        go_wp2_with fail
        refine (P0.out).mono ?_
        rintro e w' ⟨rfl, rfl⟩
        go_wp2_with (go_at_call 53; refine (S.out _).mono ?_; rintro e w' ⟨rfl, rfl⟩)
        refine (K.out c t _ hr).mono ?_
        rintro e w1 ⟨rfl, h1, f1⟩
        go_wp2_with fail
        go_roundw
        case rel => exact ⟨t, h1, hf.trans f1, hF⟩
        case measure => rw [h1.left, hr.left]; exact encs_lt c t
      | false =>
        rw [hc] at S hF
        rw [if_neg (by decide)] at hF
        go_wp2_with fail
        refine (P0.out).mono ?_
        rintro e w' ⟨rfl, rfl⟩
        go_wp2_with (go_at_call 53; refine (S.out _).mono ?_; rintro e w' ⟨rfl, rfl⟩)
        go_end0
        exact ⟨rfl, by rw [← hF]; exact hr, hf⟩
set_option maxHeartbeats 2000000 in
set_option maxRecDepth 100000 in
theorem digitsL (b : Nat) (s : ByteArray) (l : List Nat) (cv : Value) (o : Bool) (w : World) (h : SR b s l cv o w) :
    Calls Tryd.prog 67 #[.pointer (some ⟨b, 0, none⟩)] w fun e w' => e = .returned (.tuple #[]) ∧ SR b s (dgS l) cv o w' ∧ Fr b w w' := by
  have H := Lib.hid (show FRel dgS b s l cv o w w from ⟨l, h, Fr.refl b w, rfl⟩)
  have P := Lib.hid (fun l w h => peek0 b s l cv o w h)
  have K := Lib.hid (fun c t w h => take_cons b s c t cv o w h)
  clear h
  go_enter Tryd.func67, Tryd.ntmps67
  go_wp2_with fail
  go_loopw [] (fun wr => FRel dgS b s l cv o w wr) (fun wr => leftOf b s wr)
  case atStart => exact H.out
  case round =>
    obtain ⟨r, hr, hf, hF⟩ := hrel
    cases r with
    | nil =>
      have S := Lib.hid (fun w => specDigit (-1) w)
      go_wp2_with fail
      refine (P.out _ _ hr).mono ?_
      rintro e w' ⟨rfl, rfl⟩
      go_wp2_with (go_at_call 35; refine (S.out _).mono ?_; rintro e w' ⟨rfl, rfl⟩)
      go_end0
      exact ⟨rfl, by rw [← hF]; exact hr, hf⟩
    | cons c t =>
      have S := Lib.hid (fun w => specDigit (c : Int) w)
      rw [dg_nat] at S
      have P0 := Lib.hid (P.out (c :: t) _ hr)
      rw [cpAt_zero_cons] at P0
      rw [dgS_cons] at hF
      cases hc : isDg c with
      | true =>
        rw [hc] at S hF
        rw [if_pos rfl] at hF
        go_wp2_with fail
        refine (P0.out).mono ?_
        rintro e w' ⟨rfl, rfl⟩
        go_wp2_with (go_at_call 35; refine (S.out _).mono ?_; rintro e w' ⟨rfl, rfl⟩)
        refine (K.out c t _ hr).mono ?_
        rintro e w1 ⟨rfl, h1, f1⟩
        go_wp2_with fail
        go_roundw
        case rel => exact ⟨t, h1, hf.trans f1, hF⟩
        case measure => rw [h1.left, hr.left]; exact encs_lt c t
      | false =>
        rw [hc] at S hF
        rw [if_neg (by decide)] at hF
        go_wp2_with fail
        refine (P0.out).mono ?_
        rintro e w' ⟨rfl, rfl⟩
        go_wp2_with (go_at_call 35; refine (S.out _).mono ?_; rintro e w' ⟨rfl, rfl⟩)
        go_end0
        exact ⟨rfl, by rw [← hF]; exact hr, hf⟩

set_option maxHeartbeats 1000000 in
theorem specIdentifies (a b c : Int) (w : World) : Calls Tryd.prog 27 #[.int .i64 a, .int .i64 b, .int .i64 c] w fun e w' => e = .returned (.bool (identZ a b c)) ∧ w = w' := by
  by_cases h : a = 45
  · subst h
    have hfin : identZ 45 b c = (ssB b || decide (b = 45) || escZ b c) := rfl
    rw [hfin]
    have cS := specStarts b
    have cE := specEscapes b c
    obtain ⟨s, hs⟩ : ∃ s, ssB b = s := ⟨_, rfl⟩
    obtain ⟨x, hx⟩ : ∃ x, escZ b c = x := ⟨_, rfl⟩
    rw [hs] at cS ⊢
    rw [hx] at cE ⊢
    have S := Lib.hid cS
    have E := Lib.hid cE
    clear hfin cS cE hs hx
    by_cases hb : b = 45
    · subst hb
      rw [decide_eq_true rfl]
      cases s <;> cases x
      all_goals
        go_enter Tryd.func27, Tryd.ntmps27
        go_wp2_with (first | (go_at_call 26; refine (S.out _).mono ?_; rintro e w' ⟨rfl, rfl⟩) | (go_at_call 40; refine (E.out _).mono ?_; rintro e w' ⟨rfl, rfl⟩))
        go_ret
        exact ⟨rfl, rfl⟩
    · have t1 : ((b : Int) == 45) = false := beq_eq_false_iff_ne.2 hb
      rw [decide_eq_false hb]
      clear hb
      cases s <;> cases x
      all_goals
        go_enter Tryd.func27, Tryd.ntmps27
        go_wp2_with (first | (go_at_call 26; refine (S.out _).mono ?_; rintro e w' ⟨rfl, rfl⟩) | (go_at_call 40; refine (E.out _).mono ?_; rintro e w' ⟨rfl, rfl⟩))
        go_ret
        exact ⟨rfl, rfl⟩
  · have hfin : identZ a b c = (ssB a || escZ a b) := if_neg h
    rw [hfin]
    have t1 : ((a : Int) == 45) = false := beq_eq_false_iff_ne.2 h
    have cS := specStarts a
    have cE := specEscapes a b
    obtain ⟨s, hs⟩ : ∃ s, ssB a = s := ⟨_, rfl⟩
    obtain ⟨x, hx⟩ : ∃ x, escZ a b = x := ⟨_, rfl⟩
    rw [hs] at cS ⊢
    rw [hx] at cE ⊢
    have S := Lib.hid cS
    have E := Lib.hid cE
    clear hfin cS cE hs hx h
    cases s <;> cases x
    all_goals
      go_enter Tryd.func27, Tryd.ntmps27
      go_wp2_with (first | (go_at_call 26; refine (S.out _).mono ?_; rintro e w' ⟨rfl, rfl⟩) | (go_at_call 40; refine (E.out _).mono ?_; rintro e w' ⟨rfl, rfl⟩))
      go_ret
      exact ⟨rfl, rfl⟩
end Go.Proofs.YtmgkccnfhkcncaaDoor
