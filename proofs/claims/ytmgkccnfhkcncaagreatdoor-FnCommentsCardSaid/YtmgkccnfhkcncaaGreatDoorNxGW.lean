/-
  css_lexer's lexer: next in general: all classes, its loop. Plain Lean, no program: every token of a text can be decoded.
-/
import Derived.Test.YtmgkccnfhkcncaaGreatDoorNxA
import Derived.Test.YtmgkccnfhkcncaaGreatDoorNxB
import Derived.Test.YtmgkccnfhkcncaaGreatDoorNxC
import Derived.Test.YtmgkccnfhkcncaaGreatDoorNxD
import Derived.Test.YtmgkccnfhkcncaaGreatDoorNxE
import Derived.Test.YtmgkccnfhkcncaaGreatDoorNxS
import Derived.Test.YtmgkccnfhkcncaaGreatDoorNxH
import Derived.Test.YtmgkccnfhkcncaaGreatDoorMR
import Derived.Test.YtmgkccnfhkcncaaGreatDoorDec
namespace Go.Proofs.YtmgkccnfhkcncaaGreatDoor
open Go.RowKit
attribute [local go_sem ↓] Go.wp_at_zero Go.wp_at_succ

theorem nxAll (b : Nat) (G : LogI) (s : ByteArray) (r : List UInt8) : NxW b G s r := by
  by_cases e : hdB r = -1
  · exact nxEof e
  obtain ⟨c, hc⟩ : ∃ c : Nat, hdB r = (c : Int) := ⟨(hdB r).toNat, by have := hdB_range r; omega⟩
  by_cases c1 : c = 47
  · exact nxSlash (by rw [hc, c1]; rfl)
  by_cases c2 : spB (hdB r) = true
  · exact nxWs c2
  by_cases c3 : c = 34 ∨ c = 39
  · exact nxQuo (by omega)
  by_cases c4 : c = 35
  · exact nxHash (by rw [hc, c4]; rfl)
  by_cases c5 : c = 64
  · exact nxAt (by rw [hc, c5]; rfl)
  by_cases c6 : c = 43
  · exact nxPlus (by rw [hc, c6]; rfl)
  by_cases c7 : c = 46
  · exact nxDot (by rw [hc, c7]; rfl)
  by_cases c8 : c = 45
  · exact nxMin (by rw [hc, c8]; rfl)
  by_cases c9 : c = 60
  · exact nxLt (by rw [hc, c9]; rfl)
  by_cases c10 : c = 92
  · exact nxBs (by rw [hc, c10]; rfl)
  by_cases c11 : dgB (hdB r) = true
  · exact nxDig c11
  by_cases c12 : nsB (hdB r) = true
  · exact nxNam c12
  by_cases c13 : c = 33 ∨ c = 36 ∨ c = 38 ∨ c = 40 ∨ c = 41 ∨ c = 42 ∨ c = 44 ∨ c = 58 ∨ c = 59
  · rcases c13 with rfl | rfl | rfl | rfl | rfl | rfl | rfl | rfl | rfl
    · exact nxSgA (c := 33) (kd := 19) (by decide) hc
    · exact nxSgA (c := 36) (kd := 16) (by decide) hc
    · exact nxSgA (c := 38) (kd := 12) (by decide) hc
    · exact nxSgA (c := 40) (kd := 33) (by decide) hc
    · exact nxSgA (c := 41) (kd := 8) (by decide) hc
    · exact nxSgA (c := 42) (kd := 13) (by decide) hc
    · exact nxSgA (c := 44) (kd := 10) (by decide) hc
    · exact nxSgA (c := 58) (kd := 9) (by decide) hc
    · exact nxSgA (c := 59) (kd := 35) (by decide) hc
  by_cases c14 : c = 61 ∨ c = 62 ∨ c = 91 ∨ c = 93 ∨ c = 94 ∨ c = 123 ∨ c = 124 ∨ c = 125 ∨ c = 126
  · rcases c14 with rfl | rfl | rfl | rfl | rfl | rfl | rfl | rfl | rfl
    · exact nxSgB (c := 61) (kd := 18) (by decide) hc
    · exact nxSgB (c := 62) (kd := 20) (by decide) hc
    · exact nxSgB (c := 91) (kd := 32) (by decide) hc
    · exact nxSgB (c := 93) (kd := 7) (by decide) hc
    · exact nxSgB (c := 94) (kd := 15) (by decide) hc
    · exact nxSgB (c := 123) (kd := 31) (by decide) hc
    · exact nxSgB (c := 124) (kd := 14) (by decide) hc
    · exact nxSgB (c := 125) (kd := 6) (by decide) hc
    · exact nxSgB (c := 126) (kd := 25) (by decide) hc
  have d1 : ¬ (hdB r = 10 ∨ hdB r = 13 ∨ hdB r = 12 ∨ hdB r = 9 ∨ hdB r = 32) := fun h => c2 (decide_eq_true h)
  have d2 : ¬ (48 ≤ hdB r ∧ hdB r ≤ 57) := fun h => c11 (decide_eq_true h)
  rw [hc] at d1 d2
  exact nxDel hc (Bool.eq_false_iff.2 c12) (by omega)
/-- Behind a comment. -/
theorem nxg_step {b : Nat} {G : LogI} {s : ByteArray} {cs : List (Nat × Nat)} {c' : List (Nat × Nat)} {S S2 : Nat → Prop} {x : List (Nat × Nat) × List UInt8 × Nat × List UInt8} {w w1 w2 : World} (f : Fx S w w1) (hS : ∀ i, S2 i → S i ∨ w.heap.size ≤ i) (h : NxG b G s (cs ++ absC s.size c') S2 x w1 w2) : NxG b G s cs S (c' ++ x.1, x.2) w w2 := by
  obtain ⟨uo, fl, h1, h2, h3, h4⟩ := h
  refine ⟨uo, fl, h1, h2, h3, ?_⟩
  dsimp only
  rw [absC_app, ← List.append_assoc]
  exact LxP.trans f hS h4
theorem LR.at {b : Nat} {P : Nat → Option Value} {s : ByteArray} {r : List UInt8} {st : Nat} {uo kd fl : Int} {w : World} (h : LR b P s r st uo kd fl w) : AtB s (s.size - r.length) r := by
  obtain ⟨k, hA, -⟩ := h.reads
  have := hA.size
  rw [show s.size - r.length = k by omega]
  exact hA
/-- What stands at a round's head. -/
def NxI (b : Nat) (G : LogI) (s : ByteArray) (cs : List (Nat × Nat)) (S : Nat → Prop) (r : List UInt8) (w : World) (a : Act) (w1 : World) : Prop :=
  ∃ f r' k P' S' cs' st uo kd fl, a = nxF b f ∧ LR b P' s r' st uo kd fl w1 ∧ LxS b G s k cs' S' P' w1 ∧ AtB s k r' ∧ ∀ w', NxG b G s cs' S' (nextB r') w1 w' → NxG b G s cs S (nextB r) w w'
theorem nxLoop (b : Nat) (G : LogI) (s : ByteArray) (r : List UInt8) (P : Nat → Option Value) (st k : Nat) (uo kd fl : Int) (cs : List (Nat × Nat)) (S : Nat → Prop) (f : Nat → Value) (Q0 : Exit → Act → World → Prop) (w : World) (h : LR b P s r st uo kd fl w) (hX : LxS b G s k cs S P w) (hA : AtB s k r) (hret : ∀ (T' : Array Value) w', NxG b G s cs S (nextB r) w w' → Q0 .ret ⟨T', []⟩ w') :
    Code.wp Tryz.prog (Code.loop nxBody) Q0 (nxF b f) w := by
  refine wp_loop (NxI b G s cs S r w) (fun _ w1 => leftI b s w1) ⟨f, r, k, P, S, cs, st, uo, kd, fl, rfl, h, hX, hA, fun _ h => h⟩ ?_
  rintro a w1 ⟨f', r', k', P', S', cs', st', uo', kd', fl', rfl, hL, hX', hA', hN⟩
  refine nxAll b G s r' P' st' k' uo' kd' fl' cs' S' f' _ _ w1 hL hX' hA' (fun a' w' h => hret a' w' (hN w' h)) ?_
  rintro a' w' R' c' ⟨f2, rfl⟩ hs hc1 hc2 ⟨P2, S2, hL2, hX2, hF2, hS2⟩
  refine ⟨⟨f2, R', _, P2, S2, _, _, _, _, _, rfl, hL2, hX2, hL2.at, fun w2 h2 => hN w2 ?_⟩, ?_⟩
  · have h3 := nxg_step hF2 hS2 h2
    cases hc : cmtB (tlB (tlB r')) with
    | none =>
      obtain ⟨rfl, rfl⟩ := hc2 hc
      rw [nextB_open hs hc]
      rw [nextB_nil] at h3
      exact h3
    | some R =>
      obtain ⟨rfl, rfl⟩ := hc1 R hc
      rw [nextB_cmt hs hc]
      exact h3
  · show leftI b s w' < leftI b s w1
    rw [hL2.left, hL.left]
    cases hc : cmtB (tlB (tlB r')) with
    | none =>
      obtain ⟨rfl, -⟩ := hc2 hc
      have := start_two hs
      show 0 < r'.length
      omega
    | some R =>
      obtain ⟨rfl, -⟩ := hc1 R hc
      have := start_lt hs hc
      omega
set_option maxHeartbeats 8000000 in
set_option maxRecDepth 1000000 in
theorem nextG (b : Nat) (G : LogI) (P : Nat → Option Value) (s : ByteArray) (r : List UInt8) (st k : Nat) (uo kd fl : Int) (cs : List (Nat × Nat)) (S : Nat → Prop) (w : World) (h : LR b P s r st uo kd fl w) (hX : LxS b G s k cs S P w) (hA : AtB s k r) :
    Calls Tryz.prog 80 #[.pointer (some ⟨b, 0, none⟩)] w fun e w' => e = .returned (.tuple #[]) ∧ NxG b G s cs S (nextB r) w w' := by
  have H := Lib.hid h
  have X := Lib.hid hX
  have A := Lib.hid hA
  clear h hX hA
  go_enter Tryz.func80, Tryz.ntmps80
  go_wp2_with fail
  refine nxLoop b G s r P st k uo kd fl cs S (fun _ => undef) _ w H.out X.out A.out (fun a' w' h => ?_)
  go_wp2_with fail
  refine bodyPost_ret (results_none rfl _ _ _) rfl ?_
  exact ⟨rfl, h⟩
end Go.Proofs.YtmgkccnfhkcncaaGreatDoor

namespace Go.Proofs.YtmgkccnfhkcncaaGreatDoor
open Go

/-- A token that can be decoded. -/
def TqOk (s : ByteArray) (t : Tq) : Prop := t.kd ≤ 255 ∧ t.uo ≤ 65535 ∧ t.b ≤ t.e ∧ t.e ≤ s.size ∧ DecOk t.kd ((s.extract t.b t.e).data.toList) ∧ t.fl ≤ 2
theorem raw_of {s : ByteArray} {b e : Nat} {r R : List UInt8} (hb : AtB s b r) (he : AtB s e R) : (s.extract b e).data.toList = r.take (r.length - R.length) := by
  rw [ext_list, List.drop_take, hb.drop]
  congr 1
  have := hb.size
  have := he.size
  omega
theorem decOk_ws (l : List UInt8) : DecOk 38 l := ⟨fun h => by omega, fun h => by omega, fun h => by omega⟩
theorem decOk_tok {r : List UInt8} (h : r ≠ []) : DecOk (tokB r).1 (r.take (r.length - (tokB r).2.length)) := by
  have h1 := tokB_lt h
  obtain ⟨h2, h3⟩ := tokB_long h
  have hl : (r.take (r.length - (tokB r).2.length)).length = r.length - (tokB r).2.length := by rw [List.length_take]; omega
  refine ⟨fun _ => by omega, fun hk => by have := h2 hk; omega, fun hk => ?_⟩
  obtain ⟨n, e1, e2, e3, e4⟩ := h3 hk
  have e5 := tl_lt e1 (by decide)
  refine ⟨?_, by omega⟩
  unfold urlEnd
  rw [hl]
  by_cases hc : r.length - (tokB r).2.length = 4
  · rw [if_neg, hc]
    · exact Nat.le_refl 4
    · rw [hc]
      intro hx
      rw [List.getElem?_take, if_pos (by omega)] at hx
      have hs : n <:+ r := by rw [e4]; exact nameR_suf r
      have hg := suf_get hs 0
      rw [show r.length - n.length + 0 = 4 - 1 by omega, hx] at hg
      obtain ⟨x, t, rfl, hx1, -, -⟩ := hdB_low (c := 40) e1 (by decide)
      have : x = 41 := by simpa using hg.symm
      subst this
      exact absurd hx1 (by decide)
  · split <;> omega
theorem next_ok {s : ByteArray} {r : List UInt8} {b e : Nat} (hk : (nextB r).2.2.1 ≠ 0) (hb : AtB s b (nextB r).2.1) (he : AtB s e (nextB r).2.2.2) : (nextB r).2.2.1 ≤ 255 ∧ b < e ∧ DecOk (nextB r).2.2.1 ((s.extract b e).data.toList) := by
  have hne := nextB_more hk
  have hr := raw_of hb he
  have z1 := hb.size
  have z2 := he.size
  have hlt := nextB_lt r hne
  have hx : (nextB r).2.1 = (skB r).2 := by
    unfold nextB
    rw [if_neg hne]
    split <;> rfl
  rw [hx] at z1 hr
  refine ⟨?_, by omega, ?_⟩
  · unfold nextB
    rw [if_neg hne]
    split
    · dsimp only; omega
    · have := (tokB_kind (skB r).2).2
      dsimp only; omega
  · rw [hr]
    unfold nextB at hk ⊢
    rw [if_neg hne] at hk ⊢
    split
    · exact decOk_ws _
    · exact decOk_tok hne
theorem run_ok (s : ByteArray) : ∀ (ts : List Tq) (cs : List (Nat × Nat)) (r : List UInt8), RunB s ts cs r → ∀ t ∈ ts, TqOk s t
  | [], _, _, _ => fun t h => by cases h
  | t :: ts, cs, r, h => by
    obtain ⟨cs', h1, h2, h3, h4, h5, h6, h7, -⟩ := h
    intro u hu
    rcases List.mem_cons.1 hu with rfl | hu
    · obtain ⟨g1, g2, g3⟩ := next_ok (by rw [← h1]; exact h2) h3 h4
      have := h4.le
      rw [← h1] at g1 g3
      exact ⟨g1, h5, by omega, this, g3, h6⟩
    · exact run_ok s ts cs' _ h7 u hu
/-- How many they are. -/
theorem run_len (s : ByteArray) : ∀ (ts : List Tq) (cs : List (Nat × Nat)) (r : List UInt8), RunB s ts cs r → ts.length ≤ r.length
  | [], _, _, _ => Nat.zero_le _
  | t :: ts, cs, r, h => by
    obtain ⟨cs', h1, h2, -, -, -, -, h7, -⟩ := h
    have := nextB_shorter (r := r) (by rw [← h1]; exact h2)
    have := run_len s ts cs' _ h7
    simp only [List.length_cons]; omega
end Go.Proofs.YtmgkccnfhkcncaaGreatDoor
