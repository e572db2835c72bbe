/-
  css_lexer's lexer: next's loop: its body out of the program, its frame. Printed by wip/gen_nxf.py. css_lexer's lexer: what a round of next's loop is to show. Printed by wip/gen_nxg.py.
-/
import Derived.Test.YtmgkccnfhkcncaaGreatDoorLxx
import Derived.Test.YtmgkccnfhkcncaaGreatDoorMR
import Derived.Outline
import Derived.LoopN
namespace Go.Proofs.YtmgkccnfhkcncaaGreatDoor
open Go.RowKit

/-- The first loop of a code. -/
def firstLoop : Code → Option Code
  | .loop c => some c
  | .seq a b => match firstLoop a with
    | some c => some c
    | none => firstLoop b
  | .block _ c => firstLoop c
  | .scope c => firstLoop c
  | .cond _ a b => match firstLoop a with
    | some c => some c
    | none => firstLoop b
  | _ => none
/-- The body of next's loop. -/
noncomputable def nxBody : Code := ((Tryz.f80.body.bind firstLoop).getD .skip)
set_option maxRecDepth 1000000 in
/-- Its frame: f: what a comment's round leaves. -/
def nxF (b : Nat) (f : Nat → Value) : Act := ⟨(
    .pointer (some ⟨b, 0, none⟩) :: undef :: undef :: undef :: undef :: undef :: f 6 :: f 7 :: f 8 :: f 9 :: f 10 :: f 11 :: f 12 :: f 13 :: f 14 :: f 15 :: f 16 :: f 17 :: f 18 :: f 19 ::
    f 20 :: f 21 :: undef :: undef :: undef :: undef :: undef :: undef :: undef :: undef :: undef :: undef :: undef :: undef :: undef :: undef :: undef :: undef :: undef :: f 39 :: f 40 ::
    undef :: undef :: undef :: undef :: f 45 :: f 46 :: f 47 :: f 48 :: f 49 :: f 50 :: f 51 :: f 52 :: f 53 :: f 54 :: f 55 :: f 56 :: f 57 :: f 58 :: f 59 :: f 60 :: f 61 :: f 62 :: f 63 ::
    undef :: undef :: undef :: undef :: undef :: undef :: undef :: undef :: undef :: undef :: undef :: undef :: undef :: undef :: undef :: undef :: undef :: undef :: undef :: undef :: undef ::
    undef :: undef :: undef :: undef :: undef :: undef :: undef :: undef :: undef :: undef :: undef :: undef :: undef :: undef :: undef :: undef :: undef :: undef :: undef :: undef :: undef ::
    undef :: undef :: undef :: undef :: undef :: undef :: undef :: undef :: undef :: undef :: undef :: undef :: undef :: undef :: undef :: undef :: undef :: undef :: undef :: undef :: undef ::
    undef :: undef :: undef :: undef :: undef :: undef :: undef :: undef :: undef :: undef :: undef :: undef :: undef :: undef :: undef :: undef :: undef :: undef :: undef :: undef :: undef ::
    undef :: undef :: undef :: undef :: undef :: undef :: undef :: undef :: undef :: undef :: undef :: undef :: undef :: undef :: undef :: undef :: undef :: undef :: undef :: undef :: undef ::
    undef :: undef :: undef :: undef :: undef :: undef :: undef :: undef :: undef :: undef :: undef :: undef :: undef :: undef :: undef :: undef :: undef :: undef :: undef :: undef :: undef ::
    undef :: undef :: undef :: undef :: undef :: undef :: undef :: undef :: undef :: undef :: undef :: undef :: undef :: undef :: undef :: undef :: undef :: undef :: undef :: undef :: undef ::
    undef :: undef :: undef :: undef :: undef :: undef :: undef :: undef :: undef :: undef :: undef :: undef :: undef :: undef :: undef :: undef :: undef :: undef :: undef :: undef :: undef ::
    undef :: undef :: undef :: undef :: undef :: undef :: undef :: undef :: undef :: undef :: undef :: undef :: undef :: undef :: undef :: undef :: undef :: undef :: undef :: undef :: undef ::
    undef :: undef :: undef :: undef :: undef :: undef :: undef :: undef :: undef :: undef :: undef :: undef :: undef :: undef :: undef :: undef :: undef :: undef :: undef :: undef :: undef ::
    undef :: undef :: undef :: undef :: undef :: undef :: undef :: undef :: undef :: undef :: undef :: undef :: undef :: undef :: undef :: undef :: undef :: undef :: undef :: undef :: undef ::
    undef :: undef :: undef :: undef :: undef :: undef :: undef :: undef :: undef :: undef :: undef :: undef :: undef :: undef :: undef :: undef :: undef :: undef :: undef :: undef :: undef ::
    undef :: undef :: undef :: undef :: undef :: undef :: undef :: undef :: undef :: undef :: undef :: undef :: undef :: undef :: undef :: undef :: undef :: undef :: undef :: undef :: undef ::
    undef :: undef :: undef :: undef :: undef :: undef :: undef :: undef :: undef :: undef :: undef :: undef :: undef :: undef :: undef :: undef :: undef :: undef :: undef :: undef :: undef ::
    undef :: undef :: undef :: undef :: undef :: undef :: undef :: undef :: undef :: undef :: undef :: undef :: undef :: undef :: undef :: undef :: undef :: undef :: undef :: undef :: undef ::
    undef :: undef :: undef :: undef :: undef :: undef :: undef :: undef :: undef :: undef :: undef :: undef :: undef :: undef :: undef :: undef :: undef :: undef :: undef :: undef :: undef ::
    undef :: undef :: undef :: undef :: undef :: undef :: undef :: undef :: undef :: undef :: undef :: undef :: undef :: undef :: undef :: undef :: undef :: undef :: undef :: undef :: undef ::
    undef :: undef :: undef :: undef :: undef :: undef :: undef :: undef :: undef :: undef :: undef :: undef :: undef :: undef :: undef :: undef :: undef :: undef :: undef :: undef :: undef ::
    undef :: undef :: undef :: undef :: undef :: undef :: undef :: undef :: undef :: undef :: undef :: undef :: undef :: undef :: undef :: undef :: undef :: undef :: undef :: undef :: undef ::
    undef :: undef :: undef :: undef :: undef :: undef :: undef :: undef :: undef :: undef :: undef :: undef :: undef :: undef :: undef :: undef :: undef :: undef :: undef :: undef :: undef ::
    undef :: undef :: undef :: undef :: undef :: undef :: undef :: undef :: undef :: undef :: undef :: undef :: undef :: undef :: undef :: undef :: undef :: undef :: undef :: undef :: undef ::
    undef :: undef :: undef :: undef :: undef :: undef :: undef :: undef :: undef :: undef :: undef :: undef :: undef :: undef :: undef :: undef :: undef :: undef :: undef :: undef :: undef ::
    undef :: undef :: undef :: undef :: undef :: undef :: undef :: undef :: undef :: undef :: undef :: undef :: undef :: undef :: undef :: undef :: undef :: undef :: undef :: undef :: undef ::
    undef :: undef :: undef :: undef :: undef :: undef :: undef :: undef :: undef :: undef :: undef :: undef :: undef :: undef :: undef :: undef :: undef :: undef :: undef :: undef :: undef ::
    undef :: undef :: undef :: undef :: undef :: undef :: undef :: undef :: undef :: undef :: undef :: undef :: undef :: undef :: undef :: undef :: undef :: undef :: undef :: undef :: undef ::
    undef :: undef :: undef :: [] : List Value).toArray, []⟩
/-- A new token begins. -/
theorem LR.begin {b : Nat} {P : Nat → Option Value} {s : ByteArray} {r : List UInt8} {st k : Nat} {uo kd fl : Int} {w : World} (h : LR b P s r st uo kd fl w) (hA : AtB s k r) :
    LR b P s r k 0 0 0 (((((w.setCell ⟨b, 36, none⟩ (.int .i32 (k : Int))).setCell ⟨b, 37, none⟩ (.int .i32 0)).setCell ⟨b, 38, none⟩ (.int .u16 0)).setCell ⟨b, 39, none⟩ (.int .u8 0)).setCell ⟨b, 40, none⟩ (.int .u8 0)) := by
  obtain ⟨hTB, hP, hs, k', n, hA', hst, hn, hL⟩ := h
  obtain rfl := hA.unique hA'
  have f : Fr b w (((((w.setCell ⟨b, 36, none⟩ (.int .i32 (k : Int))).setCell ⟨b, 37, none⟩ (.int .i32 0)).setCell ⟨b, 38, none⟩ (.int .u16 0)).setCell ⟨b, 39, none⟩ (.int .u8 0)).setCell ⟨b, 40, none⟩ (.int .u8 0)) :=
    ((((Fr.setCell w 36 _).trans (Fr.setCell _ 37 _)).trans (Fr.setCell _ 38 _)).trans (Fr.setCell _ 39 _)).trans (Fr.setCell _ 40 _)
  refine ⟨hTB.fr f, hP, hs, k, n, hA, Nat.le_refl _, hn, ?_⟩
  rw [Int.sub_self]
  exact ((((hL.set36 k).set37 0).set38 0).set39 0).set40 0
theorem LR.c38' {b : Nat} {P : Nat → Option Value} {s : ByteArray} {r : List UInt8} {st : Nat} {uo kd fl : Int} {w : World} (h : LR b P s r st uo kd fl w) : w.cell? ⟨b, 38, none⟩ = some (.int .u16 uo) := by
  obtain ⟨_, _, _, k, n, _, _, _, hL⟩ := h
  exact hL.c.2.2.2.2.2.1
theorem LR.c3940 {b : Nat} {P : Nat → Option Value} {s : ByteArray} {r : List UInt8} {st : Nat} {uo kd fl : Int} {w : World} (h : LR b P s r st uo kd fl w) : w.cell? ⟨b, 39, none⟩ = some (.int .u8 kd) ∧ w.cell? ⟨b, 40, none⟩ = some (.int .u8 fl) := by
  obtain ⟨_, _, _, k, n, _, _, _, hL⟩ := h
  exact hL.c.2.2.2.2.2.2
theorem LR.set39 {b : Nat} {P : Nat → Option Value} {s : ByteArray} {r : List UInt8} {st : Nat} {uo kd fl : Int} {w : World} (h : LR b P s r st uo kd fl w) (v : Int) : LR b P s r st uo v fl (w.setCell ⟨b, 39, none⟩ (.int .u8 v)) := by
  obtain ⟨hTB, hP, hs, k, n, hA, hst, hn, hL⟩ := h
  exact ⟨hTB.fr (Fr.setCell w 39 _), hP, hs, k, n, hA, hst, hn, hL.set39 v⟩
theorem LR.set40 {b : Nat} {P : Nat → Option Value} {s : ByteArray} {r : List UInt8} {st : Nat} {uo kd fl : Int} {w : World} (h : LR b P s r st uo kd fl w) (v : Int) : LR b P s r st uo kd v (w.setCell ⟨b, 40, none⟩ (.int .u8 v)) := by
  obtain ⟨hTB, hP, hs, k, n, hA, hst, hn, hL⟩ := h
  exact ⟨hTB.fr (Fr.setCell w 40 _), hP, hs, k, n, hA, hst, hn, hL.set40 v⟩
/-- Another kind behind a call. -/
theorem LxP.set39 {b : Nat} {G : LogI} {s : ByteArray} {R : List UInt8} {st : Nat} {uo kd fl : Int} {cs : List (Nat × Nat)} {S : Nat → Prop} {w w' : World} (h : LxP b G s R st uo kd fl cs S w w') (v : Int) : LxP b G s R st uo v fl cs S w (w'.setCell ⟨b, 39, none⟩ (.int .u8 v)) := by
  obtain ⟨P', S', h1, h2, h3, h4⟩ := h
  exact ⟨P', S', h1.set39 v, h2.fr (Fr.setCell w' 39 _) (Nat.le_refl _), h3.trans ((Fr.setCell w' 39 _).fx h2.own) h4, h4⟩
theorem LxP.set40 {b : Nat} {G : LogI} {s : ByteArray} {R : List UInt8} {st : Nat} {uo kd fl : Int} {cs : List (Nat × Nat)} {S : Nat → Prop} {w w' : World} (h : LxP b G s R st uo kd fl cs S w w') (v : Int) : LxP b G s R st uo kd v cs S w (w'.setCell ⟨b, 40, none⟩ (.int .u8 v)) := by
  obtain ⟨P', S', h1, h2, h3, h4⟩ := h
  exact ⟨P', S', h1.set40 v, h2.fr (Fr.setCell w' 40 _) (Nat.le_refl _), h3.trans ((Fr.setCell w' 40 _).fx h2.own) h4, h4⟩
/-- What next's caller sees. -/
def NxG (b : Nat) (G : LogI) (s : ByteArray) (cs : List (Nat × Nat)) (S : Nat → Prop) (x : List (Nat × Nat) × List UInt8 × Nat × List UInt8) (w w' : World) : Prop :=
  ∃ uo fl : Nat, uo ≤ 65535 ∧ fl ≤ 2 ∧ AtB s (s.size - x.2.1.length) x.2.1 ∧ LxP b G s x.2.2.2 (s.size - x.2.1.length) (uo : Int) (x.2.2.1 : Int) (fl : Int) (cs ++ absC s.size x.1) S w w'
/-- Where a token is. -/
theorem nxg_tok {b : Nat} {G : LogI} {s : ByteArray} {cs : List (Nat × Nat)} {S : Nat → Prop} {r R : List UInt8} {k kd uo fl : Nat} {w w' : World} (hA : AtB s k r) (hx : nextB r = ([], r, kd, R)) (hu : uo ≤ 65535) (hf : fl ≤ 2) (h : LxP b G s R k (uo : Int) (kd : Int) (fl : Int) cs S w w') : NxG b G s cs S (nextB r) w w' := by
  have e : s.size - r.length = k := by have := hA.size; omega
  rw [hx]
  refine ⟨uo, fl, hu, hf, ?_, ?_⟩
  · show AtB s (s.size - r.length) r
    rw [e]; exact hA
  · show LxP b G s R (s.size - r.length) uo kd fl (cs ++ []) S w w'
    rw [e, List.append_nil]; exact h
end Go.Proofs.YtmgkccnfhkcncaaGreatDoor

namespace Go.Proofs.YtmgkccnfhkcncaaGreatDoor
open Go.RowKit

/-- A round of next's loop. -/
def NxW (b : Nat) (G : LogI) (s : ByteArray) (r : List UInt8) : Prop :=
  ∀ (P : Nat → Option Value) (st0 k : Nat) (uo0 kd0 fl0 : Int) (cs : List (Nat × Nat)) (S : Nat → Prop) (f : Nat → Value) (QN : Act → World → Prop) (Q0 : Exit → Act → World → Prop) (w : World),
    LR b P s r st0 uo0 kd0 fl0 w → LxS b G s k cs S P w → AtB s k r → (∀ (T' : Array Value) w', NxG b G s cs S (nextB r) w w' → Q0 .ret ⟨T', []⟩ w') →
    (∀ a' w' R' c', (∃ f', a' = nxF b f') → startC r → (∀ R, cmtB (tlB (tlB r)) = some R → R' = R ∧ c' = [(r.length, R.length)]) → (cmtB (tlB (tlB r)) = none → R' = [] ∧ c' = []) → LxP b G s R' k 0 0 0 (cs ++ absC s.size c') S w w' → QN a' w') →
    Code.wp Tryz.prog nxBody (Exit.then QN Q0) (nxF b f) w
theorem u16_nat (n : Nat) : IntKind.u16.wrap (n : Int) = ((n % 65536 : Nat) : Int) := by
  show ((n : Int) % 65536) = _
  omega
theorem LxP.c39 {b : Nat} {G : LogI} {s : ByteArray} {R : List UInt8} {st : Nat} {uo kd fl : Int} {cs : List (Nat × Nat)} {S : Nat → Prop} {w w' : World} (h : LxP b G s R st uo kd fl cs S w w') : w'.cell? ⟨b, 39, none⟩ = some (.int .u8 kd) := by
  obtain ⟨P', S', h1, -⟩ := h
  exact h1.c3940.1
theorem LxP.z39 {b : Nat} {G : LogI} {s : ByteArray} {R : List UInt8} {st : Nat} {uo kd fl : Int} {cs : List (Nat × Nat)} {S : Nat → Prop} {w w' : World} (h : LxP b G s R st uo kd fl cs S w w') : w'.frozen? ⟨b, 39, none⟩ = false := by
  obtain ⟨P', S', h1, -⟩ := h
  exact h1.fz 39
theorem signK_delim {c : Nat} (h : c ≠ 123 ∧ c ≠ 125 ∧ c ≠ 91 ∧ c ≠ 93 ∧ c ≠ 40 ∧ c ≠ 41 ∧ c ≠ 58 ∧ c ≠ 59 ∧ c ≠ 44 ∧ c ≠ 38 ∧ c ≠ 42 ∧ c ≠ 124 ∧ c ≠ 94 ∧ c ≠ 36 ∧ c ≠ 46 ∧ c ≠ 61 ∧ c ≠ 33 ∧ c ≠ 62 ∧ c ≠ 60 ∧ c ≠ 45 ∧ c ≠ 43 ∧ c ≠ 47 ∧ c ≠ 126) : signK c = 11 := by
  unfold signK
  rw [if_neg (by omega), if_neg (by omega), if_neg (by omega), if_neg (by omega), if_neg (by omega), if_neg (by omega), if_neg (by omega), if_neg (by omega), if_neg (by omega), if_neg (by omega), if_neg (by omega), if_neg (by omega), if_neg (by omega), if_neg (by omega), if_neg (by omega), if_neg (by omega), if_neg (by omega), if_neg (by omega), if_neg (by omega), if_neg (by omega), if_neg (by omega), if_neg (by omega), if_neg (by omega)]
/-- The end of a number's round. -/
theorem nx_numF {b : Nat} {G : LogI} {s : ByteArray} {r : List UInt8} {k : Nat} {cs : List (Nat × Nat)} {S : Nat → Prop} {Q0 : Exit → Act → World → Prop} {w w' : World} {T' : Array Value} (hx : nextB r = ([], r, (numericB r).1, (numericB r).2.2))
    (F : ∀ (uo fl : Nat) (R' : List UInt8) (T' : Array Value) (w' : World), nextB r = ([], r, (numericB r).1, R') → uo ≤ 65535 → fl ≤ 2 → LxP b G s R' k (uo : Int) ((numericB r).1 : Int) (fl : Int) cs S w w' → Q0 .ret ⟨T', []⟩ w')
    (h : LxP b G s (numericB r).2.2 k (if (numericB r).1 = 26 then IntKind.u16.wrap ((numericB r).2.1 : Nat) else 0) ((numericB r).1 : Nat) 0 cs S w w') : Q0 .ret ⟨T', []⟩ w' := by
  by_cases h26 : (numericB r).1 = 26
  · rw [if_pos h26, u16_nat] at h
    exact F ((numericB r).2.1 % 65536) 0 _ _ _ hx (by omega) (by decide) h
  · rw [if_neg h26] at h
    exact F 0 0 _ _ _ hx (by decide) (by decide) h
end Go.Proofs.YtmgkccnfhkcncaaGreatDoor
