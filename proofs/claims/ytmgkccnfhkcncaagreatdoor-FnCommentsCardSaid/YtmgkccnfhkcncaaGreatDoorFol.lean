/-
  Plain Lean, no program: the steps of the loop over tokens and comments; where a comment does not end; the tokens of a:1.
-/
import Derived.Test.YtmgkccnfhkcncaaGreatDoorMR
namespace Go.Proofs.YtmgkccnfhkcncaaGreatDoor
open Go

theorem fol_cs {z F : Nat} : ∀ (n pk : Nat) (ts : List Tq) (cs : List (Nat × Nat)) (at_ : Nat), Fol z F n pk ts cs at_ → ∀ c ∈ cs, c.1 < c.2 ∧ c.2 ≤ z
  | 0, _, _, _, _, h => by
    obtain ⟨-, rfl, -⟩ := h
    intro c hc; cases hc
  | n + 1, pk, ts, cs, at_, h => by
    rcases h with ⟨c, cs', rfl, -, h1, h2, -, -, h3⟩ | ⟨t, ts', rfl, -, -, -, -, h3⟩
    · intro d hd
      rcases List.mem_cons.1 hd with rfl | hd
      · exact ⟨h1, h2⟩
      · exact fol_cs n _ _ _ _ h3 d hd
    · exact fol_cs n _ _ _ _ h3
theorem run_cs {s : ByteArray} {ts : List Tq} {cs : List (Nat × Nat)} (h : RunB s ts cs s.data.toList) : ∀ c ∈ cs, c.1 < c.2 ∧ c.2 ≤ s.size := by
  obtain ⟨F, y, n, h1, -, -⟩ := run_fol s ts cs s.data.toList 0 0 ⟨List.drop_zero, Nat.zero_le _⟩ h
  exact fol_cs n 0 ts cs 0 h1
theorem drop_head {α : Type} {l l' : List α} {i : Nat} {a : α} (h : l.drop i = a :: l') : l[i]? = some a ∧ l' = l.drop (i + 1) ∧ i < l.length := by
  have h1 : (l.drop i)[0]? = some a := by rw [h]; rfl
  rw [List.getElem?_drop, Nat.add_zero] at h1
  refine ⟨h1, ?_, (List.getElem?_eq_some_iff.1 h1).1⟩
  have h2 : (l.drop i).tail = l' := by rw [h]; rfl
  rw [← h2, List.tail_drop]
theorem drop_none {α : Type} {l : List α} {i : Nat} (h : l.drop i = []) (hi : i ≤ l.length) : i = l.length := by
  have := List.drop_eq_nil_iff.1 h
  omega
/-- One round. -/
theorem fol_at {z F n pk at_ i k : Nat} {toks : List Tq} {cs : List (Nat × Nat)} (h : Fol z F n pk (toks.drop i) (cs.drop k) at_) (hi : i ≤ toks.length) (hk : k ≤ cs.length) :
    (i = toks.length ∧ k = cs.length ∧ at_ = F) ∨
    (∃ c m, cs[k]? = some c ∧ (i = toks.length ∨ ∃ t, toks[i]? = some t ∧ c.1 < t.b) ∧ c.1 < c.2 ∧ c.2 ≤ z ∧ c.1 ≤ at_ ∧ (c.1 = at_ ∨ (c.2 ≤ at_ ∧ pk = 38)) ∧ Fol z F m pk (toks.drop i) (cs.drop (k + 1)) (max at_ c.2)) ∨
    (∃ t m, toks[i]? = some t ∧ (k = cs.length ∨ ∃ c, cs[k]? = some c ∧ t.b ≤ c.1) ∧ t.b = at_ ∧ at_ < t.e ∧ t.e ≤ z ∧ Fol z F m t.kd (toks.drop (i + 1)) (cs.drop k) t.e) := by
  cases n with
  | zero =>
    obtain ⟨h1, h2, h3⟩ := h
    exact .inl ⟨drop_none h1 hi, drop_none h2 hk, h3⟩
  | succ n =>
    rcases h with ⟨c, cs', e, h0, h1, h2, h3, h4, h5⟩ | ⟨t, ts', e, h0, h1, h2, h3, h5⟩
    · obtain ⟨e1, rfl, -⟩ := drop_head e
      refine .inr (.inl ⟨c, n, e1, ?_, h1, h2, h3, h4, h5⟩)
      rcases h0 with h0 | ⟨t, ts', h0, h6⟩
      · exact .inl (drop_none h0 hi)
      · exact .inr ⟨t, (drop_head h0).1, h6⟩
    · obtain ⟨e1, rfl, -⟩ := drop_head e
      refine .inr (.inr ⟨t, n, e1, ?_, h1, h2, h3, h5⟩)
      rcases h0 with h0 | ⟨c, cs', h0, h6⟩
      · exact .inl (drop_none h0 hk)
      · exact .inr ⟨c, (drop_head h0).1, h6⟩
/-- A comment that does not end. -/
theorem open_bytes {y : List UInt8} (h : startC y) (hc : cmtB (tlB (tlB y)) = none) : ∃ r, y = 47 :: 42 :: r ∧ ∀ i x z, r[i]? = some x → r[i + 1]? = some z → ¬ (x.toNat = 42 ∧ z.toNat = 47) := by
  obtain ⟨x, t, rfl, hx, e1, -⟩ := hdB_low (c := 47) h.1 (by decide)
  have h2 := h.2
  rw [e1] at h2
  obtain ⟨x2, t2, rfl, hx2, e2, -⟩ := hdB_low (c := 42) h2 (by decide)
  rw [e1, e2] at hc
  obtain rfl : x = 47 := UInt8.toNat_inj.1 hx
  obtain rfl : x2 = 42 := UInt8.toNat_inj.1 hx2
  exact ⟨t2, rfl, cmtB_no t2 hc⟩
/-- The reference's tokens are one reading. -/
theorem tokR_one : ∀ (o o' : List Tp) (l : List Nat) (cs cs' : List (Nat × Nat)) (op op' : Bool), TokR o l cs op → TokR o' l cs' op' → o = o' ∧ cs = cs' ∧ op = op'
  | [], [], l, cs, cs', op, op', h, h' => by
    obtain ⟨-, rfl, rfl⟩ := h
    obtain ⟨-, rfl, rfl⟩ := h'
    exact ⟨rfl, rfl, rfl⟩
  | [], tp :: o, l, cs, cs', op, op', h, h' => by
    obtain ⟨c, t, -, -, h1, -⟩ := h'
    rw [h.1] at h1; cases h1
  | tp :: o, [], l, cs, cs', op, op', h, h' => by
    obtain ⟨c, t, -, -, h1, -⟩ := h
    rw [h'.1] at h1; cases h1
  | tp :: o, tp' :: o', l, cs, cs', op, op', h, h' => by
    obtain ⟨c, t, c1, p1, h1, rfl, h2, rfl, rfl⟩ := h
    obtain ⟨c', t', c2, p2, h1', rfl, h2', rfl, rfl⟩ := h'
    rw [h1] at h1'
    obtain ⟨rfl, rfl⟩ := List.cons.inj h1'
    obtain ⟨rfl, rfl, rfl⟩ := tokR_one _ _ _ _ _ _ _ h2 h2'
    exact ⟨rfl, rfl, rfl⟩
/-- The comments of a text are one list. -/
theorem run_one (s : ByteArray) : ∀ (ts ts' : List Tq) (cs cs' : List (Nat × Nat)) (r : List UInt8), RunB s ts cs r → RunB s ts' cs' r → cs = cs'
  | [], [], cs, cs', r, h, h' => h.2.trans h'.2.symm
  | [], t :: ts, cs, cs', r, h, h' => by
    obtain ⟨c1, h1, h2, -⟩ := h'
    rw [h.1] at h1
    exact absurd h1 h2
  | t :: ts, [], cs, cs', r, h, h' => by
    obtain ⟨c1, h1, h2, -⟩ := h
    rw [h'.1] at h1
    exact absurd h1 h2
  | t :: ts, t' :: ts', cs, cs', r, h, h' => by
    obtain ⟨c1, -, -, -, -, -, -, h5, rfl⟩ := h
    obtain ⟨c2, -, -, -, -, -, -, g5, rfl⟩ := h'
    rw [run_one s ts ts' c1 c2 _ h5 g5]
/-! ### a:1 -/
def wakeS : ByteArray := ⟨#[97, 58, 49]⟩
theorem wake_1 : nextB [97, 58, 49] = ([], [97, 58, 49], 29, [58, 49]) := by decide +kernel
theorem wake_2 : nextB [58, 49] = ([], [58, 49], 9, [49]) := by decide +kernel
theorem wake_3 : nextB [49] = ([], [49], 30, []) := by decide +kernel
theorem wake_run {ts : List Tq} {cs : List (Nat × Nat)} (h : RunB wakeS ts cs wakeS.data.toList) : ∃ t0 t1 t2, ts = [t0, t1, t2] ∧ t0.kd = 29 ∧ t0.b = 0 ∧ t0.e = 1 ∧ t1.kd = 9 ∧ t2.kd = 30 := by
  have e0 : wakeS.data.toList = [97, 58, 49] := rfl
  rw [e0] at h
  match ts, h with
  | [], h => have := h.1; rw [wake_1] at this; cases this
  | t0 :: ts, h =>
    obtain ⟨c1, h1, h2, h3, h4, -, -, h5, -⟩ := h
    rw [wake_1] at h1 h3 h4 h5
    dsimp only at h1 h3 h4 h5
    have z0 := h3.size
    have z1 := h4.size
    have zs : wakeS.size = 3 := rfl
    simp only [List.length_cons, List.length_nil] at z0 z1
    match ts, h5 with
    | [], h => have := h.1; rw [wake_2] at this; cases this
    | t1 :: ts, h =>
      obtain ⟨c2, g1, g2, g3, g4, -, -, g5, -⟩ := h
      rw [wake_2] at g1 g5
      dsimp only at g1 g5
      match ts, g5 with
      | [], h => have := h.1; rw [wake_3] at this; cases this
      | t2 :: ts, h =>
        obtain ⟨c3, k1, k2, k3, k4, -, -, k5, -⟩ := h
        rw [wake_3] at k1 k5
        dsimp only at k1 k5
        match ts, k5 with
        | [], h => exact ⟨t0, t1, t2, rfl, h1, by omega, by omega, g1, k1⟩
        | t3 :: ts, h =>
          obtain ⟨c4, m1, m2, -⟩ := h
          rw [nextB_nil] at m1
          exact absurd m1 m2
end Go.Proofs.YtmgkccnfhkcncaaGreatDoor
