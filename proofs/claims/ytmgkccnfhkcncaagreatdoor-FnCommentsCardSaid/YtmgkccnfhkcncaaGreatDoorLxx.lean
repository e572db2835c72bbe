/-
  css_lexer's lexer in general: its log, its tracker, its lists of comments. css_lexer's lexer in general: its lists of comments grow; its source map; the end of a comment of one line.
-/
import Derived.Test.YtmgkccnfhkcncaaGreatDoorLogE
import Derived.Test.YtmgkccnfhkcncaaGreatDoorCmtB
import Derived.Test.YtmgkccnfhkcncaaGreatDoorLgA
namespace Go.Proofs.YtmgkccnfhkcncaaGreatDoor
open Go.RowKit

/-- Comments as cells of logger.Range. -/
def rngC (cs : List (Nat × Nat)) : List Value := cs.flatMap fun p => [.int .i32 (p.1 : Int), .int .i32 ((p.2 : Int) - p.1)]
theorem rngC_app (a : List (Nat × Nat)) (p : Nat × Nat) : rngC (a ++ [p]) = rngC a ++ [.int .i32 (p.1 : Int), .int .i32 ((p.2 : Int) - p.1)] := by simp [rngC]
/-- Comments' cells. -/
def cmC (p : ByteArray × Int × Int) : List Value := [.string p.1, .int .i32 p.2.1, .int .u32 p.2.2]
def OneC (xs : List Value) : Prop := ∃ L : List (ByteArray × Int × Int), xs = L.flatMap cmC
theorem OneC.nil : OneC [] := ⟨[], rfl⟩
theorem OneC.more {xs : List Value} (h : OneC xs) (t : ByteArray) (a n : Int) : OneC (xs ++ [.string t, .int .i32 a, .int .u32 n]) := by
  obtain ⟨L, rfl⟩ := h
  exact ⟨L ++ [(t, a, n)], by simp [cmC]⟩
/-- The log's blocks, and what else it is made of. -/
structure LogI where
  gk : Nat
  gm : Nat
  gh : Nat
  gs : Nat
  g2 : Fn
  g3 : Fn
  g4 : Fn
  c2 : Array Value
  c3 : Array Value
  c4 : Array Value
def LogI.val (G : LogI) : Array Value := logV G.gk G.gm G.gh G.gs G.g2 G.g3 G.g4 G.c2 G.c3 G.c4
/-- The lexer b (P: its cells that a token does not change) has read up to byte k; cs: the comments so far. -/
structure Lx (b : Nat) (G : LogI) (s : ByteArray) (k : Nat) (cs : List (Nat × Nat)) (mv cv lv : Value) (nm nL : Nat) (P : Nat → Option Value) (w : World) : Prop where
  opt : P 0 = some (.bool true)
  log : P 1 = some (.func (.func 71) #[] #[.pointer (some ⟨G.gk, 0, none⟩), .pointer (some ⟨G.gm, 0, none⟩), .pointer (some ⟨G.gh, 0, none⟩), .pointer (some ⟨G.gs, 0, none⟩)]) ∧ P 2 = some (.func G.g2 #[] G.c2) ∧ P 3 = some (.func G.g3 #[] G.c3) ∧ P 4 = some (.func G.g4 #[] G.c4) ∧ P 5 = some (.int .i8 3) ∧ P 6 = some (.map none)
  trk : ∃ k0, TrkP P s k0 ∧ k0 ≤ k
  lgs : LgS G.gk G.gm G.gh G.gs (b + 1) nm mv w
  low : G.gh < b
  old : ∃ v : Int, P 34 = some (.int .i32 v)
  smu : (∃ t, P 19 = some (.string t)) ∧ (∃ x : Int, P 20 = some (.int .i32 x)) ∧ ∃ x : Int, P 21 = some (.int .i32 x)
  all : P 17 = some cv
  allR : w.ownsRow (b + 1) 55 2 cv cs.length (rngC cs)
  leg : P 18 = some lv
  legR : ∃ xs, w.ownsRow (b + 1) 125 3 lv nL xs ∧ OneC xs
  apart : ∀ i, (mv.ownBlock = some i → cv.ownBlock ≠ some i ∧ lv.ownBlock ≠ some i) ∧ (cv.ownBlock = some i → lv.ownBlock ≠ some i)
  cnt : nm ≤ k ∧ cs.length ≤ k ∧ nL ≤ k
  tab : TB G.gk w
/-- The blocks that the lexer may write. -/
def LxOwn (b : Nat) (G : LogI) (mv cv lv : Value) (i : Nat) : Prop := i = b ∨ LgOwn G.gm G.gh G.gs mv i ∨ cv.ownBlock = some i ∨ lv.ownBlock = some i
/-- The lexer, whatever its lists are: S: the blocks that it may write. -/
def LxS (b : Nat) (G : LogI) (s : ByteArray) (k : Nat) (cs : List (Nat × Nat)) (S : Nat → Prop) (P : Nat → Option Value) (w : World) : Prop :=
  ∃ mv cv lv nm nL, Lx b G s k cs mv cv lv nm nL P w ∧ ∀ i, S i ↔ LxOwn b G mv cv lv i
/-- The lexer behind a call. -/
def LxP (b : Nat) (G : LogI) (s : ByteArray) (R : List UInt8) (st : Nat) (uo kd fl : Int) (cs : List (Nat × Nat)) (S : Nat → Prop) (w w' : World) : Prop :=
  ∃ P' S', LR b P' s R st uo kd fl w' ∧ LxS b G s (s.size - R.length) cs S' P' w' ∧ Fx S w w' ∧ ∀ i, S' i → S i ∨ w.heap.size ≤ i
theorem lrow_fr {w w' : World} {e : TypeId} {size : Nat} {v : Value} {n : Nat} {xs : List Value} {b : Nat} (h : w.ownsRow (b + 1) e size v n xs) (f : Fr b w w') : w'.ownsRow (b + 1) e size v n xs :=
  row_heap h fun k hk hk2 => f.block k hk2 (by omega)
theorem TB.frl {c b : Nat} {w w' : World} (h : TB c w) (hc : c ≤ b) (f : Fr b w w') : TB c w' := by
  obtain ⟨w0, h1, h2, h3⟩ := h
  exact ⟨w0, h1, h2, h3.trans (f.below (by omega) h3.size)⟩
theorem TB.fx {c : Nat} {S : Nat → Prop} {w w' : World} (h : TB c w) (f : Fx S w w') (hS : ∀ i, S i → c ≤ i) : TB c w' := by
  obtain ⟨w0, h1, h2, h3⟩ := h
  refine ⟨w0, h1, h2, h3.trans ⟨f.os, f.tape, f.output, f.size, fun k hk => f.block k (by have := h3.size; omega) fun h4 => ?_⟩⟩
  have := hS k h4
  omega
theorem Lx.low_own {b : Nat} {G : LogI} {s : ByteArray} {k : Nat} {cs : List (Nat × Nat)} {mv cv lv : Value} {nm nL : Nat} {P : Nat → Option Value} {w : World} (h : Lx b G s k cs mv cv lv nm nL P w) : ∀ i, LxOwn b G mv cv lv i → G.gk ≤ i := by
  obtain ⟨a1, a2, a3, a4, a5⟩ := h.lgs.apart
  obtain ⟨xs, hx, -⟩ := h.legR
  obtain ⟨ys, hy⟩ := h.lgs.row
  have hl := h.low
  rintro i (hi | (hi | hi | hi | hi) | hi | hi)
  · omega
  · omega
  · omega
  · omega
  · have := (own_base hy hi).1; omega
  · have := (own_base h.allR hi).1; omega
  · have := (own_base hx hi).1; omega
theorem Lx.fr {b : Nat} {G : LogI} {s : ByteArray} {k k' : Nat} {cs : List (Nat × Nat)} {mv cv lv : Value} {nm nL : Nat} {P : Nat → Option Value} {w w' : World} (h : Lx b G s k cs mv cv lv nm nL P w) (f : Fr b w w') (hk : k ≤ k') : Lx b G s k' cs mv cv lv nm nL P w' := by
  obtain ⟨k0, h1, h2⟩ := h.trk
  obtain ⟨xs, hx, hx1⟩ := h.legR
  obtain ⟨a1, a2, a3⟩ := h.cnt
  exact ⟨h.opt, h.log, ⟨k0, h1, by omega⟩, h.lgs.fr h.low f, h.low, h.old, h.smu, h.all, lrow_fr h.allR f, h.leg, ⟨xs, lrow_fr hx f, hx1⟩, h.apart, ⟨by omega, by omega, by omega⟩, h.tab.frl (by have := h.lgs.apart; have := h.low; omega) f⟩
theorem LxS.fr {b : Nat} {G : LogI} {s : ByteArray} {k k' : Nat} {cs : List (Nat × Nat)} {S : Nat → Prop} {P : Nat → Option Value} {w w' : World} (h : LxS b G s k cs S P w) (f : Fr b w w') (hk : k ≤ k') : LxS b G s k' cs S P w' := by
  obtain ⟨mv, cv, lv, nm, nL, h1, h2⟩ := h
  exact ⟨mv, cv, lv, nm, nL, h1.fr f hk, h2⟩
theorem LxS.own {b : Nat} {G : LogI} {s : ByteArray} {k : Nat} {cs : List (Nat × Nat)} {S : Nat → Prop} {P : Nat → Option Value} {w : World} (h : LxS b G s k cs S P w) : S b := by
  obtain ⟨mv, cv, lv, nm, nL, h1, h2⟩ := h
  exact (h2 b).2 (.inl rfl)
/-- A call that logs nothing. -/
theorem LxP.quiet {b : Nat} {G : LogI} {s : ByteArray} {k : Nat} {R : List UInt8} {st : Nat} {uo kd fl : Int} {cs : List (Nat × Nat)} {S : Nat → Prop} {P : Nat → Option Value} {w w' : World} (h : LxS b G s k cs S P w) (hL : LR b P s R st uo kd fl w') (f : Fr b w w') (hk : k ≤ s.size - R.length) : LxP b G s R st uo kd fl cs S w w' :=
  ⟨P, S, hL, h.fr f hk, f.fx h.own, fun _ hi => .inl hi⟩
theorem LxP.trans {b : Nat} {G : LogI} {s : ByteArray} {R2 : List UInt8} {st2 : Nat} {uo2 kd2 fl2 : Int} {cs2 : List (Nat × Nat)} {S S1 : Nat → Prop} {w w1 w2 : World} (f : Fx S w w1) (hS : ∀ i, S1 i → S i ∨ w.heap.size ≤ i) (h : LxP b G s R2 st2 uo2 kd2 fl2 cs2 S1 w1 w2) : LxP b G s R2 st2 uo2 kd2 fl2 cs2 S w w2 := by
  obtain ⟨P', S', h1, h2, h3, h4⟩ := h
  refine ⟨P', S', h1, h2, f.trans h3 hS, fun i hi => ?_⟩
  rcases h4 i hi with h5 | h5
  · exact hS i h5
  · exact .inr (Nat.le_trans f.size h5)
/-- Behind a call of the log. -/
theorem Lx.told {b : Nat} {G : LogI} {s : ByteArray} {k off : Nat} {cs : List (Nat × Nat)} {mv cv lv : Value} {nm nL : Nat} {P : Nat → Option Value} {n cur cp st ln uo kd fl : Int} {w w' : World} {e : Ending} (h : Lx b G s k cs mv cv lv nm nL P w) (hp : LgP b G.gk G.gm G.gh G.gs nm mv P s off n cur cp st ln uo kd fl w e w') {k' : Nat} (hk : k < k') (hoff : off ≤ k') :
    ∃ P' mv', LB b P' n cur cp st ln uo kd fl w' ∧ Lx b G s k' cs mv' cv lv (nm + 1) nL P' w' ∧ SameT P P' ∧ Fx (LxOwn b G mv cv lv) w w' ∧ ∀ i, LxOwn b G mv' cv lv i → LxOwn b G mv cv lv i ∨ w.heap.size ≤ i := by
  obtain ⟨-, P', mv', h1, h2, h3, h4, h5, h6⟩ := hp
  obtain ⟨xs, hx, hx1⟩ := h.legR
  obtain ⟨a1, a2, a3⟩ := h.cnt
  obtain ⟨l1, l2, l3, l4, l5, l6⟩ := h.log
  obtain ⟨v, hv⟩ := h.old
  obtain ⟨⟨t, ht⟩, ⟨x, hx0⟩, y, hy⟩ := h.smu
  have keep : ∀ {tt : TypeId} {size : Nat} {v : Value} {n : Nat} {xs : List Value}, w.ownsRow (b + 1) tt size v n xs → (∀ i, v.ownBlock = some i → mv.ownBlock ≠ some i) → w'.ownsRow (b + 1) tt size v n xs := by
    intro tt size v n xs hr hn
    refine ⟨hr.1, ?_⟩
    rcases hr.2 with h7 | ⟨g, cap, cur, rfl, hg, hgg, rest⟩
    · exact .inl h7
    · refine .inr ⟨g, cap, cur, rfl, hg, ?_, rest⟩
      rw [h5.block g (Array.getElem?_eq_some_iff.1 hgg).1 ?_]
      · exact hgg
      · obtain ⟨q1, q2, q3, q4, q5⟩ := h.lgs.apart
        rintro (h8 | h8 | h8 | h8 | h8)
        · omega
        · omega
        · omega
        · omega
        · exact hn g rfl h8
  have new : ∀ i, mv'.ownBlock = some i → mv.ownBlock = some i ∨ w.heap.size ≤ i := h6
  have lt : ∀ {tt : TypeId} {size : Nat} {v : Value} {n : Nat} {xs : List Value}, w.ownsRow (b + 1) tt size v n xs → ∀ i, v.ownBlock = some i → i < w.heap.size := fun hr i hi => (own_base hr hi).2
  refine ⟨P', mv', h3, ⟨?_, ⟨?_, ?_, ?_, ?_, ?_, ?_⟩, ⟨off, h2, hoff⟩, h4, h.low, ⟨v, ?_⟩, ⟨⟨t, ?_⟩, ⟨x, ?_⟩, y, ?_⟩, ?_, ?_, ?_, ⟨xs, ?_, hx1⟩, fun i => ⟨fun hi => ?_, (h.apart i).2⟩, ⟨by omega, by omega, by omega⟩, h.tab.fx h5 (fun i hi => h.low_own i (by rcases hi with hi | hi; exact .inl hi; exact .inr (.inl hi)))⟩, h1, ?_, ?_⟩
  · rw [h1 0 (by omega)]; exact h.opt
  · rw [h1 1 (by omega)]; exact l1
  · rw [h1 2 (by omega)]; exact l2
  · rw [h1 3 (by omega)]; exact l3
  · rw [h1 4 (by omega)]; exact l4
  · rw [h1 5 (by omega)]; exact l5
  · rw [h1 6 (by omega)]; exact l6
  · rw [h1 34 (by omega)]; exact hv
  · rw [h1 19 (by omega)]; exact ht
  · rw [h1 20 (by omega)]; exact hx0
  · rw [h1 21 (by omega)]; exact hy
  · rw [h1 17 (by omega)]; exact h.all
  · exact keep h.allR fun i hi h7 => ((h.apart i).1 h7).1 hi
  · rw [h1 18 (by omega)]; exact h.leg
  · exact keep hx fun i hi h7 => ((h.apart i).1 h7).2 hi
  · rcases new i hi with h7 | h7
    · exact (h.apart i).1 h7
    · exact ⟨fun h8 => by have := lt h.allR i h8; omega, fun h8 => by have := lt hx i h8; omega⟩
  · exact h5.more fun i hi => by
      rcases hi with hi | hi
      · exact .inl hi
      · exact .inr (.inl hi)
  · intro i hi
    rcases hi with hi | (hi | hi | hi | hi) | hi | hi
    · exact .inl (.inl hi)
    · exact .inl (.inr (.inl (.inl hi)))
    · exact .inl (.inr (.inl (.inr (.inl hi))))
    · exact .inl (.inr (.inl (.inr (.inr (.inl hi)))))
    · rcases new i hi with h7 | h7
      · exact .inl (.inr (.inl (.inr (.inr (.inr h7)))))
      · exact .inr h7
    · exact .inl (.inr (.inr (.inl hi)))
    · exact .inl (.inr (.inr (.inr hi)))
/-- The lexer behind a call of the log: it stands where it stood. -/
def TellP (b : Nat) (G : LogI) (s : ByteArray) (r : List UInt8) (st : Nat) (uo kd fl : Int) (k' : Nat) (cs : List (Nat × Nat)) (S : Nat → Prop) (P : Nat → Option Value) (w : World) (e : Ending) (w' : World) : Prop :=
  e = .returned (.tuple #[]) ∧ ∃ P' S', LR b P' s r st uo kd fl w' ∧ LxS b G s k' cs S' P' w' ∧ SameT P P' ∧ Fx S w w' ∧ ∀ i, S' i → S i ∨ w.heap.size ≤ i
theorem tell_close {b : Nat} {G : LogI} {s : ByteArray} {r : List UInt8} {st k kp n off : Nat} {uo kd fl : Int} {cs : List (Nat × Nat)} {mv cv lv : Value} {nm nL : Nat} {S : Nat → Prop} {P : Nat → Option Value} {w w' : World} {e : Ending} (h : Lx b G s k cs mv cv lv nm nL P w) (hS : ∀ i, S i ↔ LxOwn b G mv cv lv i) (hA : AtB s kp r) (hst : st ≤ kp) (hn : n ≤ kp + widB r) (hP10 : P 10 = some (.string s)) (hs : s.size ≤ 1073741824)
    (hp : LgP b G.gk G.gm G.gh G.gs nm mv P s off n ((kp + widB r : Nat) : Int) (hdB r) st ((kp : Int) - st) uo kd fl w e w') {k' : Nat} (hk : k < k') (hoff : off ≤ k') : TellP b G s r st uo kd fl k' cs S P w e w' := by
  have he := hp.1
  obtain ⟨P', mv', h1, h2, h3, h4, h5⟩ := h.told hp hk hoff
  refine ⟨he, P', LxOwn b G mv' cv lv, ⟨?_, by rw [h3 10 (by omega)]; exact hP10, hs, kp, n, hA, hst, hn, h1⟩, ⟨mv', cv, lv, nm + 1, nL, h2, fun _ => Iff.rfl⟩, h3, h4.more fun i hi => (hS i).2 hi, fun i hi => ?_⟩
  · obtain ⟨w0, q1, q2, q3⟩ := h2.tab
    obtain ⟨a1, a2, a3, a4, a5⟩ := h2.lgs.apart
    have := h2.low
    exact ⟨w0, q1, by omega, q3⟩
  · rcases h5 i hi with h6 | h6
    · exact .inl ((hS i).2 h6)
    · exact .inr h6
theorem tellID (b : Nat) (G : LogI) (s : ByteArray) (r : List UInt8) (st k off k' : Nat) (uo kd fl len id mk : Int) (tx : ByteArray) (cs : List (Nat × Nat)) (S : Nat → Prop) (P : Nat → Option Value) (w : World) (h : LR b P s r st uo kd fl w) (hX : LxS b G s k cs S P w) (hk : k < k') (hko : k ≤ off) (hoff : off ≤ k') (hk2 : k' ≤ s.size) (hB : Bd s off) (hl0 : -2147483648 ≤ len) (hl1 : len ≤ 2147483647) :
    Calls Tryz.prog 94 #[.agg G.val, .int .u8 id, .int .u8 mk, .pointer (some ⟨b, 22, none⟩), .agg #[.int .i32 (off : Int), .int .i32 len], .string tx] w fun e w' => TellP b G s r st uo kd fl k' cs S P w e w' := by
  obtain ⟨mv, cv, lv, nm, nL, hx, hS⟩ := hX
  obtain ⟨hT, hP10, hs, kp, n, hA, hst, hn, hL⟩ := h
  obtain ⟨k0, htr, hk0⟩ := hx.trk
  exact (addIDI b G.gk G.gm G.gh G.gs nm mv G.g2 G.g3 G.g4 G.c2 G.c3 G.c4 P s k0 off n _ _ st _ uo kd fl len id mk tx w hT htr hL hx.lgs hx.low (by have := hx.cnt; omega) hs (by omega) hB hl0 hl1).mono fun e w' hp => tell_close hx hS hA hst hn hP10 hs hp hk hoff
theorem tellIDN (b : Nat) (G : LogI) (s : ByteArray) (r : List UInt8) (st k off k' : Nat) (uo kd fl len id mk : Int) (tx : ByteArray) (na : Option Addr) (nl nc : Nat) (cs : List (Nat × Nat)) (S : Nat → Prop) (P : Nat → Option Value) (w : World) (h : LR b P s r st uo kd fl w) (hX : LxS b G s k cs S P w) (hk : k < k') (hko : k ≤ off) (hoff : off ≤ k') (hk2 : k' ≤ s.size) (hB : Bd s off) (hl0 : -2147483648 ≤ len) (hl1 : len ≤ 2147483647) :
    Calls Tryz.prog 138 #[.agg G.val, .int .u8 id, .int .u8 mk, .pointer (some ⟨b, 22, none⟩), .agg #[.int .i32 (off : Int), .int .i32 len], .string tx, .slice na nl nc] w fun e w' => TellP b G s r st uo kd fl k' cs S P w e w' := by
  obtain ⟨mv, cv, lv, nm, nL, hx, hS⟩ := hX
  obtain ⟨hT, hP10, hs, kp, n, hA, hst, hn, hL⟩ := h
  obtain ⟨k0, htr, hk0⟩ := hx.trk
  exact (addIDNI b G.gk G.gm G.gh G.gs nm mv G.g2 G.g3 G.g4 G.c2 G.c3 G.c4 P s k0 off n _ _ st _ uo kd fl len id mk tx na nl nc w hT htr hL hx.lgs hx.low (by have := hx.cnt; omega) hs (by omega) hB hl0 hl1).mono fun e w' hp => tell_close hx hS hA hst hn hP10 hs hp hk hoff
theorem tellE (b : Nat) (G : LogI) (s : ByteArray) (r : List UInt8) (st k off k' : Nat) (uo kd fl len : Int) (tx : ByteArray) (cs : List (Nat × Nat)) (S : Nat → Prop) (P : Nat → Option Value) (w : World) (h : LR b P s r st uo kd fl w) (hX : LxS b G s k cs S P w) (hk : k < k') (hko : k ≤ off) (hoff : off ≤ k') (hk2 : k' ≤ s.size) (hB : Bd s off) (hl0 : -2147483648 ≤ len) (hl1 : len ≤ 2147483647) :
    Calls Tryz.prog 103 #[.agg G.val, .pointer (some ⟨b, 22, none⟩), .agg #[.int .i32 (off : Int), .int .i32 len], .string tx] w fun e w' => TellP b G s r st uo kd fl k' cs S P w e w' := by
  obtain ⟨mv, cv, lv, nm, nL, hx, hS⟩ := hX
  obtain ⟨hT, hP10, hs, kp, n, hA, hst, hn, hL⟩ := h
  obtain ⟨k0, htr, hk0⟩ := hx.trk
  exact (addErrorI b G.gk G.gm G.gh G.gs nm mv G.g2 G.g3 G.g4 G.c2 G.c3 G.c4 P s k0 off n _ _ st _ uo kd fl len tx w hT htr hL hx.lgs hx.low (by have := hx.cnt; omega) hs (by omega) hB hl0 hl1).mono fun e w' hp => tell_close hx hS hA hst hn hP10 hs hp hk hoff
theorem tellEN (b : Nat) (G : LogI) (s : ByteArray) (r : List UInt8) (st k off k' : Nat) (uo kd fl len : Int) (tx : ByteArray) (na : Option Addr) (nl nc : Nat) (cs : List (Nat × Nat)) (S : Nat → Prop) (P : Nat → Option Value) (w : World) (h : LR b P s r st uo kd fl w) (hX : LxS b G s k cs S P w) (hk : k < k') (hko : k ≤ off) (hoff : off ≤ k') (hk2 : k' ≤ s.size) (hB : Bd s off) (hl0 : -2147483648 ≤ len) (hl1 : len ≤ 2147483647) :
    Calls Tryz.prog 119 #[.agg G.val, .pointer (some ⟨b, 22, none⟩), .agg #[.int .i32 (off : Int), .int .i32 len], .string tx, .slice na nl nc] w fun e w' => TellP b G s r st uo kd fl k' cs S P w e w' := by
  obtain ⟨mv, cv, lv, nm, nL, hx, hS⟩ := hX
  obtain ⟨hT, hP10, hs, kp, n, hA, hst, hn, hL⟩ := h
  obtain ⟨k0, htr, hk0⟩ := hx.trk
  exact (addErrorNI b G.gk G.gm G.gh G.gs nm mv G.g2 G.g3 G.g4 G.c2 G.c3 G.c4 P s k0 off n _ _ st _ uo kd fl len tx na nl nc w hT htr hL hx.lgs hx.low (by have := hx.cnt; omega) hs (by omega) hB hl0 hl1).mono fun e w' hp => tell_close hx hS hA hst hn hP10 hs hp hk hoff
theorem Lx.same {b : Nat} {G : LogI} {s : ByteArray} {k off : Nat} {cs : List (Nat × Nat)} {mv cv lv : Value} {nm nL : Nat} {P P' : Nat → Option Value} {w w' : World} (h : Lx b G s k cs mv cv lv nm nL P w) (h1 : SameT P P') (h2 : TrkP P' s off) (f : Fr b w w') (hk : k ≤ off) : Lx b G s off cs mv cv lv nm nL P' w' := by
  have g := h.fr f hk
  obtain ⟨xs, hx, hx1⟩ := g.legR
  obtain ⟨l1, l2, l3, l4, l5, l6⟩ := h.log
  obtain ⟨v, hv⟩ := h.old
  obtain ⟨⟨t, ht⟩, ⟨x, hx0⟩, y, hy⟩ := h.smu
  refine ⟨?_, ⟨?_, ?_, ?_, ?_, ?_, ?_⟩, ⟨off, h2, Nat.le_refl _⟩, g.lgs, g.low, ⟨v, ?_⟩, ⟨⟨t, ?_⟩, ⟨x, ?_⟩, y, ?_⟩, ?_, g.allR, ?_, ⟨xs, hx, hx1⟩, g.apart, g.cnt, g.tab⟩
  · rw [h1 0 (by omega)]; exact h.opt
  · rw [h1 1 (by omega)]; exact l1
  · rw [h1 2 (by omega)]; exact l2
  · rw [h1 3 (by omega)]; exact l3
  · rw [h1 4 (by omega)]; exact l4
  · rw [h1 5 (by omega)]; exact l5
  · rw [h1 6 (by omega)]; exact l6
  · rw [h1 34 (by omega)]; exact hv
  · rw [h1 19 (by omega)]; exact ht
  · rw [h1 20 (by omega)]; exact hx0
  · rw [h1 21 (by omega)]; exact hy
  · rw [h1 17 (by omega)]; exact h.all
  · rw [h1 18 (by omega)]; exact h.leg
/-- The data of a message. -/
theorem tellM (b : Nat) (G : LogI) (s : ByteArray) (r : List UInt8) (st k off : Nat) (uo kd fl len : Int) (tx : ByteArray) (cs : List (Nat × Nat)) (S : Nat → Prop) (P : Nat → Option Value) (w : World) (h : LR b P s r st uo kd fl w) (hX : LxS b G s k cs S P w) (hko : k ≤ off) (hB : Bd s off) (hl0 : -2147483648 ≤ len) (hl1 : len ≤ 2147483647) :
    Calls Tryz.prog 120 #[.pointer (some ⟨b, 22, none⟩), .agg #[.int .i32 (off : Int), .int .i32 len], .string tx] w fun e w' => (∃ g, e = .returned (.agg #[.nilIface, .pointer (some ⟨g, 0, none⟩), .string tx, .bool false])) ∧ ∃ P', LR b P' s r st uo kd fl w' ∧ LxS b G s off cs S P' w' ∧ SameT P P' ∧ Fr b w w' := by
  obtain ⟨mv, cv, lv, nm, nL, hx, hS⟩ := hX
  obtain ⟨hT, hP10, hs, kp, n, hA, hst, hn, hL⟩ := h
  obtain ⟨k0, htr, hk0⟩ := hx.trk
  refine (msgdI b P s k0 off n _ _ st _ uo kd fl len tx w hT htr hL hs (by omega) hB hl0 hl1).mono fun e w' ⟨he, P', h1, h2, h3, h4⟩ => ⟨he, P', ⟨hT.fr h4, by rw [h1 10 (by omega)]; exact hP10, hs, kp, n, hA, hst, hn, h3⟩, ⟨mv, cv, lv, nm, nL, hx.same h1 h2 h4 hko, hS⟩, h1, h4⟩
theorem LR.c3637 {b : Nat} {P : Nat → Option Value} {s : ByteArray} {r : List UInt8} {st : Nat} {uo kd fl : Int} {w : World} (h : LR b P s r st uo kd fl w) {k : Nat} (hA : AtB s k r) : w.cell? ⟨b, 36, none⟩ = some (.int .i32 (st : Int)) ∧ w.cell? ⟨b, 37, none⟩ = some (.int .i32 ((k : Int) - st)) := by
  obtain ⟨k', hA', _, _, _, _, _, _, c36, c37⟩ := h.reads
  obtain rfl := hA.unique hA'
  exact ⟨c36, c37⟩
/-- The log's cells in the lexer's block. -/
theorem LxS.c16 {b : Nat} {G : LogI} {s : ByteArray} {k : Nat} {cs : List (Nat × Nat)} {S : Nat → Prop} {P : Nat → Option Value} {w w2 : World} {r : List UInt8} {st : Nat} {uo kd fl : Int} (h : LxS b G s k cs S P w) (hL : LR b P s r st uo kd fl w2) :
    w2.cell? ⟨b, 1, none⟩ = some (.func (.func 71) #[] #[.pointer (some ⟨G.gk, 0, none⟩), .pointer (some ⟨G.gm, 0, none⟩), .pointer (some ⟨G.gh, 0, none⟩), .pointer (some ⟨G.gs, 0, none⟩)]) ∧ w2.cell? ⟨b, 2, none⟩ = some (.func G.g2 #[] G.c2) ∧ w2.cell? ⟨b, 3, none⟩ = some (.func G.g3 #[] G.c3) ∧ w2.cell? ⟨b, 4, none⟩ = some (.func G.g4 #[] G.c4) ∧ w2.cell? ⟨b, 5, none⟩ = some (.int .i8 3) ∧ w2.cell? ⟨b, 6, none⟩ = some (.map none) := by
  obtain ⟨mv, cv, lv, nm, nL, hx, -⟩ := h
  obtain ⟨-, -, -, kp, n, -, -, -, hB⟩ := hL
  obtain ⟨l1, l2, l3, l4, l5, l6⟩ := hx.log
  exact ⟨(hB.p 1 (by omega)).trans l1, (hB.p 2 (by omega)).trans l2, (hB.p 3 (by omega)).trans l3, (hB.p 4 (by omega)).trans l4, (hB.p 5 (by omega)).trans l5, (hB.p 6 (by omega)).trans l6⟩
end Go.Proofs.YtmgkccnfhkcncaaGreatDoor

namespace Go.Proofs.YtmgkccnfhkcncaaGreatDoor
open Go.RowKit

theorem TrkP.of {P P' : Nat → Option Value} {s : ByteArray} {k : Nat} (h : TrkP P s k) (e : ∀ i, 22 ≤ i → i ≤ 31 → P' i = P i) : TrkP P' s k := by
  obtain ⟨⟨p22, p23, p24, ⟨l, p26⟩, p29, p31, a, e1, he, p27, p28, p30, q1, q2⟩, p25⟩ := h
  exact ⟨⟨(e 22 (by omega) (by omega)).trans p22, (e 23 (by omega) (by omega)).trans p23, (e 24 (by omega) (by omega)).trans p24, ⟨l, (e 26 (by omega) (by omega)).trans p26⟩, (e 29 (by omega) (by omega)).trans p29, (e 31 (by omega) (by omega)).trans p31,
    a, e1, he, (e 27 (by omega) (by omega)).trans p27, (e 28 (by omega) (by omega)).trans p28, (e 30 (by omega) (by omega)).trans p30, q1, q2⟩, (e 25 (by omega) (by omega)).trans p25⟩
theorem row_own {w w' : World} {base : Nat} {e : TypeId} {size : Nat} {v : Value} {n : Nat} {xs : List Value} (h : w.ownsRow base e size v n xs) (hb : ∀ k, v.ownBlock = some k → w'.heap[k]? = w.heap[k]?) : w'.ownsRow base e size v n xs := by
  refine ⟨h.1, ?_⟩
  rcases h.2 with hn | ⟨g, cap, cur, rfl, hg, hgg, rest⟩
  · exact .inl hn
  · refine .inr ⟨g, cap, cur, rfl, hg, ?_, rest⟩
    rw [hb g rfl]
    exact hgg
/-- The world is as it was, but for the lexer's block and one row. -/
structure Gro (b : Nat) (row : Option Nat) (w w' : World) : Prop where
  os : w'.os = w.os
  tape : w'.tape = w.tape
  output : w'.output = w.output
  size : w.heap.size ≤ w'.heap.size
  block : ∀ i, i < w.heap.size → i ≠ b → row ≠ some i → w'.heap[i]? = w.heap[i]?
theorem Fr.gro {b : Nat} {row : Option Nat} {w w' : World} (f : Fr b w w') : Gro b row w w' := ⟨f.os, f.tape, f.output, f.size, fun i hi hb _ => f.block i hi hb⟩
theorem Gro.trans {b : Nat} {row : Option Nat} {u v w : World} (h : Gro b row u v) (k : Gro b row v w) : Gro b row u w :=
  ⟨k.os.trans h.os, k.tape.trans h.tape, k.output.trans h.output, Nat.le_trans h.size k.size, fun i hi hb hr => (k.block i (Nat.lt_of_lt_of_le hi h.size) hb hr).trans (h.block i hi hb hr)⟩
theorem Gro.of {b : Nat} {row : Option Nat} {w w' : World} (g : w.grownBy w' row) : Gro b row w w' := ⟨g.os, g.tape, g.output, g.size, fun i hi _ hr => g.block i hi (fun e => hr e.symm)⟩
theorem Gro.fx {b : Nat} {row : Option Nat} {S : Nat → Prop} {w w' : World} (g : Gro b row w w') (hb : S b) (hr : ∀ i, row = some i → S i) : Fx S w w' :=
  ⟨g.os, g.tape, g.output, g.size, fun i hi hn => g.block i hi (fun e => hn (e ▸ hb)) (fun e => hn (hr i e))⟩
theorem LgS.gro {gk gm gh gs b nm : Nat} {mv : Value} {row : Option Nat} {w w' : World} (h : LgS gk gm gh gs (b + 1) nm mv w) (hb : gh < b) (f : Gro b row w w') (hr : ∀ i, row = some i → b < i ∧ mv.ownBlock ≠ some i) : LgS gk gm gh gs (b + 1) nm mv w' := by
  obtain ⟨a1, a2, a3, a4, a5⟩ := h.apart
  have sm : ∀ k, k < b → w'.heap[k]? = w.heap[k]? := fun k hk => f.block k (by omega) (by omega) (fun e => by have := (hr k e).1; omega)
  have hsz := f.size
  refine ⟨(sm gk (by omega)).trans h.kind, (sm gm (by omega)).trans h.lock, ?_, (sm gs (by omega)).trans h.msgs, ?_, ⟨a1, a2, a3, a4, by omega⟩⟩
  · obtain ⟨x, hx⟩ := h.errs
    exact ⟨x, (sm gh (by omega)).trans hx⟩
  · obtain ⟨xs, hx⟩ := h.row
    refine ⟨xs, row_own hx fun k hk => ?_⟩
    have := own_base hx hk
    exact f.block k this.2 (by omega) (fun e => (hr k e).2 hk)
/-- The lexer, its source map or its mark of a comment of one line written. -/
theorem Lx.upd {b : Nat} {G : LogI} {s : ByteArray} {k : Nat} {cs : List (Nat × Nat)} {mv cv lv : Value} {nm nL : Nat} {P P' : Nat → Option Value} {w w' : World} (h : Lx b G s k cs mv cv lv nm nL P w) (f : Fr b w w')
    (e : ∀ i, i ≠ 19 → i ≠ 20 → i ≠ 21 → i ≠ 34 → P' i = P i) (h34 : ∃ v : Int, P' 34 = some (.int .i32 v)) (h19 : (∃ t, P' 19 = some (.string t)) ∧ (∃ x : Int, P' 20 = some (.int .i32 x)) ∧ ∃ x : Int, P' 21 = some (.int .i32 x)) : Lx b G s k cs mv cv lv nm nL P' w' := by
  have g := h.fr f (Nat.le_refl k)
  obtain ⟨l1, l2, l3, l4, l5, l6⟩ := g.log
  obtain ⟨k0, t1, t2⟩ := g.trk
  have E : ∀ i, i < 19 ∨ (22 ≤ i ∧ i ≤ 33) → P' i = P i := fun i hi => e i (by omega) (by omega) (by omega) (by omega)
  exact ⟨(E 0 (by omega)).trans g.opt, ⟨(E 1 (by omega)).trans l1, (E 2 (by omega)).trans l2, (E 3 (by omega)).trans l3, (E 4 (by omega)).trans l4, (E 5 (by omega)).trans l5, (E 6 (by omega)).trans l6⟩, ⟨k0, t1.of fun i h1 h2 => E i (by omega), t2⟩, g.lgs, g.low, h34, h19, (E 17 (by omega)).trans g.all, g.allR, (E 18 (by omega)).trans g.leg, g.legR, g.apart, g.cnt, g.tab⟩
theorem LR.setP {b : Nat} {P : Nat → Option Value} {s : ByteArray} {r : List UInt8} {st : Nat} {uo kd fl : Int} {w : World} (h : LR b P s r st uo kd fl w) (i : Nat) (hi : i < 32 ∨ i = 34) (h10 : i ≠ 10) (v : Value) : LR b (updP P i v) s r st uo kd fl (w.setCell ⟨b, i, none⟩ v) := by
  obtain ⟨hT, hP, hs, k, n, hA, hst, hn, hL⟩ := h
  exact ⟨hT.fr (Fr.setCell w i v), (updP_other P v (Ne.symm h10)).trans hP, hs, k, n, hA, hst, hn, hL.setP i hi v⟩
theorem LxS.smu {b : Nat} {G : LogI} {s : ByteArray} {k : Nat} {cs : List (Nat × Nat)} {S : Nat → Prop} {P : Nat → Option Value} {w : World} (h : LxS b G s k cs S P w) (t : ByteArray) (x y : Int) :
    LxS b G s k cs S (updP (updP (updP P 19 (.string t)) 20 (.int .i32 x)) 21 (.int .i32 y)) (((w.setCell ⟨b, 19, none⟩ (.string t)).setCell ⟨b, 20, none⟩ (.int .i32 x)).setCell ⟨b, 21, none⟩ (.int .i32 y)) := by
  obtain ⟨mv, cv, lv, nm, nL, h1, h2⟩ := h
  refine ⟨mv, cv, lv, nm, nL, h1.upd (((Fr.setCell w 19 _).trans (Fr.setCell _ 20 _)).trans (Fr.setCell _ 21 _)) (fun i a1 a2 a3 _ => by rw [updP_other _ _ a3, updP_other _ _ a2, updP_other _ _ a1]) ?_ ⟨⟨t, ?_⟩, ⟨x, ?_⟩, y, ?_⟩, h2⟩
  · obtain ⟨v, hv⟩ := h1.old
    exact ⟨v, by rw [updP_other _ _ (by decide), updP_other _ _ (by decide), updP_other _ _ (by decide)]; exact hv⟩
  · rw [updP_other _ _ (by decide), updP_other _ _ (by decide), updP_same]
  · rw [updP_other _ _ (by decide), updP_same]
  · rw [updP_same]
theorem LxS.old34 {b : Nat} {G : LogI} {s : ByteArray} {k : Nat} {cs : List (Nat × Nat)} {S : Nat → Prop} {P : Nat → Option Value} {w : World} (h : LxS b G s k cs S P w) (v : Int) :
    LxS b G s k cs S (updP P 34 (.int .i32 v)) (w.setCell ⟨b, 34, none⟩ (.int .i32 v)) := by
  obtain ⟨mv, cv, lv, nm, nL, h1, h2⟩ := h
  obtain ⟨⟨t, ht⟩, ⟨x, hx⟩, y, hy⟩ := h1.smu
  exact ⟨mv, cv, lv, nm, nL, h1.upd (Fr.setCell w 34 _) (fun i _ _ _ a4 => updP_other _ _ a4) ⟨v, updP_same _ _ _⟩ ⟨⟨t, (updP_other _ _ (by decide)).trans ht⟩, ⟨x, (updP_other _ _ (by decide)).trans hx⟩, y, (updP_other _ _ (by decide)).trans hy⟩, h2⟩

/-! ### a comment more -/
theorem Lx.addC {b : Nat} {G : LogI} {s : ByteArray} {k : Nat} {cs : List (Nat × Nat)} {mv cv lv : Value} {nm nL : Nat} {P : Nat → Option Value} {w w' : World} {g cap a e : Nat} (h : Lx b G s k cs mv cv lv nm nL P w) (f : Gro b cv.ownBlock w w')
    (hown : w'.ownsRow (b + 1) 55 2 (.slice (some ⟨g, 0, none⟩) (cs.length + 1) cap) (cs.length + 1) (rngC (cs ++ [(a, e)]))) (hat : cv.ownBlock = some g ∨ w.heap.size ≤ g) :
    Lx b G s (k + 1) (cs ++ [(a, e)]) mv (.slice (some ⟨g, 0, none⟩) (cs.length + 1) cap) lv nm nL (updP P 17 (.slice (some ⟨g, 0, none⟩) (cs.length + 1) cap)) w' := by
  obtain ⟨l1, l2, l3, l4, l5, l6⟩ := h.log
  obtain ⟨k0, t1, t2⟩ := h.trk
  obtain ⟨v, hv⟩ := h.old
  obtain ⟨⟨t, ht⟩, ⟨x, hx0⟩, y, hy⟩ := h.smu
  obtain ⟨xs, hx, hx1⟩ := h.legR
  obtain ⟨c1, c2, c3⟩ := h.cnt
  have hrow : ∀ i, cv.ownBlock = some i → b < i ∧ mv.ownBlock ≠ some i := fun i hi => ⟨by have := (own_base h.allR hi).1; omega, fun e => ((h.apart i).1 e).1 hi⟩
  have E : ∀ i, i ≠ 17 → updP P 17 (.slice (some ⟨g, 0, none⟩) (cs.length + 1) cap) i = P i := fun i hi => updP_other P _ hi
  have hlow := h.low_own
  have hb := h.lgs.apart
  refine ⟨(E 0 (by omega)).trans h.opt, ⟨(E 1 (by omega)).trans l1, (E 2 (by omega)).trans l2, (E 3 (by omega)).trans l3, (E 4 (by omega)).trans l4, (E 5 (by omega)).trans l5, (E 6 (by omega)).trans l6⟩, ⟨k0, t1.of fun i h1 h2 => E i (by omega), by omega⟩, h.lgs.gro h.low f hrow, h.low, ⟨v, (E 34 (by omega)).trans hv⟩, ⟨⟨t, (E 19 (by omega)).trans ht⟩, ⟨x, (E 20 (by omega)).trans hx0⟩, y, (E 21 (by omega)).trans hy⟩, updP_same _ _ _, ?_, (E 18 (by omega)).trans h.leg, ⟨xs, ?_, hx1⟩, ?_, ⟨by omega, ?_, by omega⟩, ?_⟩
  · rw [List.length_append]; exact hown
  · refine row_own hx fun i hi => ?_
    have := own_base hx hi
    exact f.block i this.2 (by omega) (fun e => (h.apart i).2 e hi)
  · intro i
    have key : ∀ j, (Value.slice (some ⟨g, 0, none⟩) (cs.length + 1) cap).ownBlock = some j → cv.ownBlock = some j ∨ w.heap.size ≤ j := by
      intro j hj
      injection hj with hj
      subst hj
      exact hat
    obtain ⟨ys, hys⟩ := h.lgs.row
    refine ⟨fun hi => ⟨fun hj => ?_, ((h.apart i).1 hi).2⟩, fun hj => ?_⟩
    · rcases key i hj with h1 | h1
      · exact ((h.apart i).1 hi).1 h1
      · have := (own_base hys hi).2; omega
    · rcases key i hj with h1 | h1
      · exact (h.apart i).2 h1
      · intro h2; have := (own_base hx h2).2; omega
  · rw [List.length_append, List.length_singleton]; omega
  · refine h.tab.fx (S := fun i => i = b ∨ cv.ownBlock = some i) (f.fx (.inl rfl) (fun i hi => .inr hi)) (fun i hi => ?_)
    rcases hi with hi | hi
    · exact hlow i (.inl hi)
    · exact hlow i (.inr (.inr (.inl hi)))
theorem LxS.addC {b : Nat} {G : LogI} {s : ByteArray} {k : Nat} {cs : List (Nat × Nat)} {mv cv lv : Value} {nm nL : Nat} {S : Nat → Prop} {P : Nat → Option Value} {w w' : World} {g cap a e : Nat} (h : Lx b G s k cs mv cv lv nm nL P w) (hS : ∀ i, S i ↔ LxOwn b G mv cv lv i) (f : Gro b cv.ownBlock w w')
    (hown : w'.ownsRow (b + 1) 55 2 (.slice (some ⟨g, 0, none⟩) (cs.length + 1) cap) (cs.length + 1) (rngC (cs ++ [(a, e)]))) (hat : cv.ownBlock = some g ∨ w.heap.size ≤ g) :
    ∃ S', LxS b G s (k + 1) (cs ++ [(a, e)]) S' (updP P 17 (.slice (some ⟨g, 0, none⟩) (cs.length + 1) cap)) w' ∧ Fx S w w' ∧ ∀ i, S' i → S i ∨ w.heap.size ≤ i := by
  refine ⟨LxOwn b G mv (.slice (some ⟨g, 0, none⟩) (cs.length + 1) cap) lv, ⟨_, _, _, _, _, h.addC f hown hat, fun _ => Iff.rfl⟩, f.fx ((hS b).2 (.inl rfl)) (fun i hi => (hS i).2 (.inr (.inr (.inl hi)))), fun i hi => ?_⟩
  rcases hi with hi | hi | hi | hi
  · exact .inl ((hS i).2 (.inl hi))
  · exact .inl ((hS i).2 (.inr (.inl hi)))
  · injection hi with hi
    subst hi
    rcases hat with h1 | h1
    · exact .inl ((hS g).2 (.inr (.inr (.inl h1))))
    · exact .inr h1
  · exact .inl ((hS i).2 (.inr (.inr (.inr hi))))
theorem Lx.addL {b : Nat} {G : LogI} {s : ByteArray} {k : Nat} {cs : List (Nat × Nat)} {mv cv lv : Value} {nm nL : Nat} {P : Nat → Option Value} {w w' : World} {g cap : Nat} {xs' : List Value} (h : Lx b G s k cs mv cv lv nm nL P w) (f : Gro b lv.ownBlock w w')
    (hown : w'.ownsRow (b + 1) 125 3 (.slice (some ⟨g, 0, none⟩) (nL + 1) cap) (nL + 1) xs') (hone : OneC xs') (hat : lv.ownBlock = some g ∨ w.heap.size ≤ g) :
    Lx b G s (k + 1) cs mv cv (.slice (some ⟨g, 0, none⟩) (nL + 1) cap) nm (nL + 1) (updP P 18 (.slice (some ⟨g, 0, none⟩) (nL + 1) cap)) w' := by
  obtain ⟨l1, l2, l3, l4, l5, l6⟩ := h.log
  obtain ⟨k0, t1, t2⟩ := h.trk
  obtain ⟨v, hv⟩ := h.old
  obtain ⟨⟨t, ht⟩, ⟨x, hx0⟩, y, hy⟩ := h.smu
  obtain ⟨xs, hx, -⟩ := h.legR
  obtain ⟨c1, c2, c3⟩ := h.cnt
  have hrow : ∀ i, lv.ownBlock = some i → b < i ∧ mv.ownBlock ≠ some i := fun i hi => ⟨by have := (own_base hx hi).1; omega, fun e => ((h.apart i).1 e).2 hi⟩
  have E : ∀ i, i ≠ 18 → updP P 18 (.slice (some ⟨g, 0, none⟩) (nL + 1) cap) i = P i := fun i hi => updP_other P _ hi
  have hlow := h.low_own
  have hb := h.lgs.apart
  refine ⟨(E 0 (by omega)).trans h.opt, ⟨(E 1 (by omega)).trans l1, (E 2 (by omega)).trans l2, (E 3 (by omega)).trans l3, (E 4 (by omega)).trans l4, (E 5 (by omega)).trans l5, (E 6 (by omega)).trans l6⟩, ⟨k0, t1.of fun i h1 h2 => E i (by omega), by omega⟩, h.lgs.gro h.low f hrow, h.low, ⟨v, (E 34 (by omega)).trans hv⟩, ⟨⟨t, (E 19 (by omega)).trans ht⟩, ⟨x, (E 20 (by omega)).trans hx0⟩, y, (E 21 (by omega)).trans hy⟩, (E 17 (by omega)).trans h.all, ?_, updP_same _ _ _, ⟨xs', hown, hone⟩, ?_, ⟨by omega, by omega, by omega⟩, ?_⟩
  · refine row_own h.allR fun i hi => ?_
    have := own_base h.allR hi
    exact f.block i this.2 (by omega) (fun e => (h.apart i).2 hi e)
  · intro i
    have key : ∀ j, (Value.slice (some ⟨g, 0, none⟩) (nL + 1) cap).ownBlock = some j → lv.ownBlock = some j ∨ w.heap.size ≤ j := by
      intro j hj
      injection hj with hj
      subst hj
      exact hat
    obtain ⟨ys, hys⟩ := h.lgs.row
    refine ⟨fun hi => ⟨((h.apart i).1 hi).1, fun hj => ?_⟩, fun hi hj => ?_⟩
    · rcases key i hj with h1 | h1
      · exact ((h.apart i).1 hi).2 h1
      · have := (own_base hys hi).2; omega
    · rcases key i hj with h1 | h1
      · exact (h.apart i).2 hi h1
      · have := (own_base h.allR hi).2; omega
  · refine h.tab.fx (S := fun i => i = b ∨ lv.ownBlock = some i) (f.fx (.inl rfl) (fun i hi => .inr hi)) (fun i hi => ?_)
    rcases hi with hi | hi
    · exact hlow i (.inl hi)
    · exact hlow i (.inr (.inr (.inr hi)))
theorem LxS.addL {b : Nat} {G : LogI} {s : ByteArray} {k : Nat} {cs : List (Nat × Nat)} {mv cv lv : Value} {nm nL : Nat} {S : Nat → Prop} {P : Nat → Option Value} {w w' : World} {g cap : Nat} {xs' : List Value} (h : Lx b G s k cs mv cv lv nm nL P w) (hS : ∀ i, S i ↔ LxOwn b G mv cv lv i) (f : Gro b lv.ownBlock w w')
    (hown : w'.ownsRow (b + 1) 125 3 (.slice (some ⟨g, 0, none⟩) (nL + 1) cap) (nL + 1) xs') (hone : OneC xs') (hat : lv.ownBlock = some g ∨ w.heap.size ≤ g) :
    ∃ S', LxS b G s (k + 1) cs S' (updP P 18 (.slice (some ⟨g, 0, none⟩) (nL + 1) cap)) w' ∧ Fx S w w' ∧ ∀ i, S' i → S i ∨ w.heap.size ≤ i := by
  refine ⟨LxOwn b G mv cv (.slice (some ⟨g, 0, none⟩) (nL + 1) cap), ⟨_, _, _, _, _, h.addL f hown hone hat, fun _ => Iff.rfl⟩, f.fx ((hS b).2 (.inl rfl)) (fun i hi => (hS i).2 (.inr (.inr (.inr hi)))), fun i hi => ?_⟩
  rcases hi with hi | hi | hi | hi
  · exact .inl ((hS i).2 (.inl hi))
  · exact .inl ((hS i).2 (.inr (.inl hi)))
  · exact .inl ((hS i).2 (.inr (.inr (.inl hi))))
  · injection hi with hi
    subst hi
    rcases hat with h1 | h1
    · exact .inl ((hS g).2 (.inr (.inr (.inr h1))))
    · exact .inr h1
/-- LR in a world that differs in blocks behind the lexer's own. -/
theorem LR.gro {b : Nat} {P : Nat → Option Value} {s : ByteArray} {r : List UInt8} {st : Nat} {uo kd fl : Int} {row : Option Nat} {w w' : World} (h : LR b P s r st uo kd fl w) (g : w.grownBy w' row) (hr : ∀ i, row = some i → b < i) : LR b P s r st uo kd fl w' := by
  have hlt := h.lt
  obtain ⟨⟨w0, h0, hs0, hb0⟩, hP, hs, k, n, hA, hst, hn, hL⟩ := h
  refine ⟨⟨w0, h0, hs0, hb0.grown g hb0.size (fun k hk => by have := hr k hk; omega)⟩, hP, hs, k, n, hA, hst, hn, hL.of (g.block b hlt ?_)⟩
  intro e
  have := hr b e.symm
  omega
end Go.Proofs.YtmgkccnfhkcncaaGreatDoor
