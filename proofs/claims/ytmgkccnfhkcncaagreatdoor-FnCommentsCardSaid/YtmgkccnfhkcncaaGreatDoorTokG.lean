/-
  css_lexer's lexer: Tokenize in general: its log, its tokens, its comments.
-/
import Derived.Test.YtmgkccnfhkcncaaGreatDoorTokA
import Derived.Test.YtmgkccnfhkcncaaGreatDoorNxGW
import Derived.RegionTactic
import Derived.Laws.ResultCell
import Derived.Laws.EntriesVeiled
import Derived.Deep.AppendLies
import Derived.Outline
import Derived.Laws.CopyOwn
namespace Go.Proofs.YtmgkccnfhkcncaaGreatDoor
open Go.RowKit
attribute [local go_sem ↓] Go.wp_at_zero Go.wp_at_succ

/-- A new log's blocks. -/
structure LgN (G : LogI) (w : World) : Prop where
  kind : w.heap[G.gk]? = some (.cells #[.int .u8 0] 85 (0, 0))
  lock : w.heap[G.gm]? = some (.cells #[.int .i32 0, .int .u32 0] 109 (0, 0))
  errs : w.heap[G.gh]? = some (.cells #[.bool false] 4 (0, 0))
  msgs : w.heap[G.gs]? = some (.cells #[.slice none 0 0] 103 (0, 0))
  apart : G.gk < G.gs ∧ G.gs < G.gm ∧ G.gm < G.gh
theorem LgN.below {G : LogI} {w w' : World} {B : Nat} (h : LgN G w) (f : Below B w w') (hB : G.gh < B) : LgN G w' := by
  obtain ⟨a1, a2, a3⟩ := h.apart
  exact ⟨(f.block _ (by omega)).trans h.kind, (f.block _ (by omega)).trans h.lock, (f.block _ (by omega)).trans h.errs, (f.block _ (by omega)).trans h.msgs, h.apart⟩
theorem LgN.lgs {G : LogI} {w : World} {b : Nat} (h : LgN G w) (hb : G.gh < b) (hs : b + 1 ≤ w.heap.size) : LgS G.gk G.gm G.gh G.gs (b + 1) 0 (.slice none 0 0) w := by
  obtain ⟨a1, a2, a3⟩ := h.apart
  exact ⟨h.kind, h.lock, ⟨_, h.errs⟩, h.msgs, ⟨[], World.ownsRow_nil _ _ _ _⟩, ⟨a1, a2, a3, by omega, hs⟩⟩
theorem alloc_at (w : World) (o : Obj) (k : Nat) (h : k = w.heap.size) : (w.alloc o).heap[k]? = some o := by subst h; exact heap_alloc_new w o
set_option maxHeartbeats 4000000 in
set_option maxRecDepth 1000000 in
theorem ndlG (w : World) :
    Calls Tryz.prog 59 #[.int .u8 0, .map none] w fun e w' => ∃ G : LogI, e = .returned (.agg G.val) ∧ LgN G w' ∧ w.heap.size ≤ G.gk ∧ G.gh < w'.heap.size ∧ Below w.heap.size w w' := by
  have hmf : ∀ (fn : Fn) (first cap : Array Value) (w : World), (Instr.makeFunc fn first cap).run Tryz.prog w = .ok (.func fn first cap) w := fun _ _ _ _ => rfl
  go_enter Tryz.func59, Tryz.ntmps59
  go_wp2_with fail
  refine bodyPost_ret (results_cell_row (P := Tryz.prog) rfl _ _ (w.heap.size + 1) _ _ _ _ rfl (log_heap w _ _ _ _ _ _) Tryz.underlying83 rfl infoLog) rfl ?_
  refine ⟨⟨w.heap.size, w.heap.size + 1 + 1 + 1, w.heap.size + 1 + 1 + 1 + 1, w.heap.size + 1 + 1, _, _, _, _, _, _⟩, rfl, ⟨?_, ?_, ?_, ?_, ?_⟩, Nat.le_refl _, ?_, (((((Below.refl _ _).alloc (Nat.le_refl _) _).alloc (by simp) _).alloc (by simp; omega) _).alloc (by simp; omega) _).alloc (by simp; omega) _⟩
  · rw [Below.heap_alloc _ _ _ (by simp <;> omega), Below.heap_alloc _ _ _ (by simp <;> omega), Below.heap_alloc _ _ _ (by simp <;> omega), Below.heap_alloc _ _ _ (by simp <;> omega)]
    exact alloc_at _ _ _ rfl
  · rw [Below.heap_alloc _ _ _ (by simp <;> omega)]
    exact alloc_at _ _ _ (by simp <;> omega)
  · exact alloc_at _ _ _ (by simp <;> omega)
  · rw [Below.heap_alloc _ _ _ (by simp <;> omega), Below.heap_alloc _ _ _ (by simp <;> omega)]
    exact alloc_at _ _ _ (by simp <;> omega)
  · dsimp only
    omega
  · dsimp only
    simp
def tqC (t : Tq) : List Value := [.int .i32 (t.b : Int), .int .i32 ((t.e : Int) - t.b), .int .u16 (t.uo : Int), .int .u8 (t.kd : Int), .int .u8 (t.fl : Int)]
theorem tqC_append (a : List Tq) (t : Tq) : (a ++ [t]).flatMap tqC = a.flatMap tqC ++ tqC t := by simp
/-- What Tokenize hands back. -/
def TokzP (s : ByteArray) (G : LogI) (w : World) (e : Ending) (w' : World) : Prop :=
  ∃ ts cs tv cv la ln lc t x y z, e = .returned (.agg #[tv, cv, .slice la ln lc, .string t, .int .i32 x, .int .i32 y, .int .i32 z]) ∧ RunB s ts cs s.data.toList ∧ cs.length ≤ s.size ∧ w'.ownsRow w.heap.size 66 5 tv ts.length (ts.flatMap tqC) ∧ w'.ownsRow w.heap.size 55 2 cv cs.length (rngC cs) ∧ Below G.gk w w'
/-- The lexer is new. -/
theorem lx_new {b : Nat} {G : LogI} {s : ByteArray} {g1 g2 g3 g4 : Fn} {x1 x2 x3 x4 : Array Value} {w : World} (hG : G.val = #[.func g1 #[] x1, .func g2 #[] x2, .func g3 #[] x3, .func g4 #[] x4, .int .i8 3, .map none]) (hN : LgN G w) (hb : G.gh < b) (hs : b < w.heap.size) (hT : TB G.gk w) :
    LxS b G s 0 [] (LxOwn b G (.slice none 0 0) (.slice none 0 0) (.slice none 0 0)) (fun i => (lexC s g1 g2 g3 g4 x1 x2 x3 x4)[i]?) w := by
  unfold LogI.val logV at hG
  simp only [Array.mk.injEq, List.cons.injEq, Value.func.injEq, and_true, true_and] at hG
  obtain ⟨⟨e1, e2⟩, ⟨e3, e4⟩, ⟨e5, e6⟩, e7, e8⟩ := hG
  refine ⟨.slice none 0 0, .slice none 0 0, .slice none 0 0, 0, 0, ⟨rfl, ⟨?_, ?_, ?_, ?_, rfl, rfl⟩, ⟨0, ⟨⟨rfl, rfl, rfl, ⟨0, rfl⟩, rfl, rfl, 0, 0, false, rfl, rfl, rfl, Nat.le_refl _, fun h => (by cases h)⟩, rfl⟩, Nat.le_refl _⟩, hN.lgs hb hs, hb, ⟨0, rfl⟩, ⟨⟨_, rfl⟩, ⟨0, rfl⟩, 0, rfl⟩, rfl, World.ownsRow_nil _ _ _ _, rfl, ⟨[], World.ownsRow_nil _ _ _ _, OneC.nil⟩, fun i => ⟨fun h => (by cases h), fun h => (by cases h)⟩, ⟨Nat.le_refl _, Nat.le_refl _, Nat.le_refl _⟩, hT⟩, fun _ => Iff.rfl⟩
  · rw [e1, e2]; rfl
  · rw [e3, e4]; rfl
  · rw [e5, e6]; rfl
  · rw [e7, e8]; rfl
end Go.Proofs.YtmgkccnfhkcncaaGreatDoor

namespace Go.Proofs.YtmgkccnfhkcncaaGreatDoor
open Go.RowKit
attribute [local go_sem ↓] Go.wp_at_zero Go.wp_at_succ

/-- The cells of the i-th of a row of comments. -/
theorem cm_cells {w : World} {base : Nat} {v : Value} {n : Nat} {L : List (ByteArray × Int × Int)} {e : TypeId} (h : w.ownsRow base e 3 v n (L.flatMap cmC)) {g : Nat} (hg : v.ownBlock = some g) {i : Nat} {t : ByteArray × Int × Int} (ht : L[i]? = some t) (j : Nat) (u : Value) (hj : (cmC t)[j]? = some u) :
    w.cell? ⟨g, i * 3 + j, none⟩ = some u := by
  have hx : (L.flatMap cmC)[i * 3 + j]? = some u := by
    clear h hg
    induction L generalizing i with
    | nil => simp at ht
    | cons a r ih =>
      rw [List.flatMap_cons]
      cases i with
      | zero =>
        simp only [List.getElem?_cons_zero, Option.some.injEq] at ht
        subst ht
        have : j < (cmC a).length := (List.getElem?_eq_some_iff.1 hj).1
        rw [Nat.zero_mul, Nat.zero_add, List.getElem?_append_left this]
        exact hj
      | succ i =>
        simp only [List.getElem?_cons_succ] at ht
        have h5 : (cmC a).length = 3 := rfl
        rw [List.getElem?_append_right (by rw [h5]; omega), h5, show (i + 1) * 3 + j - 3 = i * 3 + j by omega]
        exact ih ht
  have h2 := h.cells hg _ _ hx
  rwa [show ((⟨g, 0, none⟩ : Addr).add (i * 3 + j)) = ⟨g, i * 3 + j, none⟩ by unfold Addr.add; split <;> simp_all] at h2
theorem cm_len {w : World} {base : Nat} {v : Value} {n : Nat} {L : List (ByteArray × Int × Int)} {e : TypeId} (h : w.ownsRow base e 3 v n (L.flatMap cmC)) : L.length = n := by
  have h1 := h.1
  have h2 : (L.flatMap cmC).length = L.length * 3 := by
    clear h h1
    induction L with
    | nil => rfl
    | cons a r ih => rw [List.flatMap_cons, List.length_append, ih, List.length_cons, show (cmC a).length = 3 from rfl]; omega
  omega
/-- The loop over legal comments: i are done. -/
def LegR (b n0 nL : Nat) (row : Option Nat) (w0 : World) (v9 vi : Value) (w : World) : Prop :=
  ∃ (i : Nat) (xs : List Value), vi = .int .i64 (i : Int) ∧ i ≤ nL ∧ w.ownsRow (b + 1) 125 3 v9 (n0 + i) xs ∧ OneC xs ∧ (v9.ownBlock = row ∨ ∃ g, v9.ownBlock = some g ∧ w0.heap.size ≤ g) ∧ w0.grownBy w row
/-- The legal comments are taken over. -/
def LegP (b : Nat) (G : LogI) (s : ByteArray) (k : Nat) (cs : List (Nat × Nat)) (r : List UInt8) (st : Nat) (uo kd fl : Int) (n0 : Nat) (S : Nat → Prop) (row : Option Nat) (w0 : World) (v9 : Value) (w : World) : Prop :=
  ∃ (n : Nat) (xs : List Value) (S' : Nat → Prop) (P' : Nat → Option Value), n ≤ n0 + 1048576 ∧ w.ownsRow (b + 1) 125 3 v9 n xs ∧ OneC xs ∧ (v9.ownBlock = row ∨ ∃ g, v9.ownBlock = some g ∧ w0.heap.size ≤ g) ∧
    LR b P' s r st uo kd fl w ∧ LxS b G s k cs S' P' w ∧ (∀ i, S' i → S i) ∧ Gro b row w0 w
/-- The lexer with no legal comments. -/
theorem Lx.noL {b : Nat} {G : LogI} {s : ByteArray} {k : Nat} {cs : List (Nat × Nat)} {mv cv lv : Value} {nm nL : Nat} {P : Nat → Option Value} {w : World} (h : Lx b G s k cs mv cv lv nm nL P w) : Lx b G s k cs mv cv (.slice none 0 0) nm 0 (updP P 18 (.slice none 0 0)) (w.setCell ⟨b, 18, none⟩ (.slice none 0 0)) := by
  have f := Fr.setCell (b := b) w 18 (.slice none 0 0)
  have g := h.fr f (Nat.le_refl k)
  obtain ⟨l1, l2, l3, l4, l5, l6⟩ := g.log
  obtain ⟨k0, t1, t2⟩ := g.trk
  obtain ⟨v, hv⟩ := g.old
  obtain ⟨⟨t, ht⟩, ⟨x, hx0⟩, y, hy⟩ := g.smu
  obtain ⟨c1, c2, c3⟩ := g.cnt
  have E : ∀ i, i ≠ 18 → updP P 18 (.slice none 0 0) i = P i := fun i hi => updP_other P _ hi
  exact ⟨(E 0 (by omega)).trans g.opt, ⟨(E 1 (by omega)).trans l1, (E 2 (by omega)).trans l2, (E 3 (by omega)).trans l3, (E 4 (by omega)).trans l4, (E 5 (by omega)).trans l5, (E 6 (by omega)).trans l6⟩, ⟨k0, t1.of fun i h1 h2 => E i (by omega), t2⟩, g.lgs, g.low, ⟨v, (E 34 (by omega)).trans hv⟩, ⟨⟨t, (E 19 (by omega)).trans ht⟩, ⟨x, (E 20 (by omega)).trans hx0⟩, y, (E 21 (by omega)).trans hy⟩, (E 17 (by omega)).trans g.all, g.allR, updP_same _ _ _, ⟨[], World.ownsRow_nil _ _ _ _, OneC.nil⟩, fun i => ⟨fun hi => ⟨((g.apart i).1 hi).1, fun h => (by cases h)⟩, fun _ h => (by cases h)⟩, ⟨c1, c2, Nat.zero_le _⟩, g.tab⟩
theorem LxS.notS {b : Nat} {G : LogI} {s : ByteArray} {k : Nat} {cs : List (Nat × Nat)} {S : Nat → Prop} {P : Nat → Option Value} {w : World} (h : LxS b G s k cs S P w) {H : Nat} (h1 : G.gh < H) (h2 : H < b) : ¬ S H := by
  obtain ⟨mv, cv, lv, nm, nL, hx, hS⟩ := h
  obtain ⟨a1, a2, a3, a4, a5⟩ := hx.lgs.apart
  obtain ⟨xs, hl, -⟩ := hx.legR
  obtain ⟨ys, hm⟩ := hx.lgs.row
  intro hi
  rcases (hS H).1 hi with hi | (hi | hi | hi | hi) | hi | hi
  · omega
  · omega
  · omega
  · omega
  · have := (own_base hm hi).1; omega
  · have := (own_base hx.allR hi).1; omega
  · have := (own_base hl hi).1; omega
/-- The loop of Tokenize. -/
def TkG (b : Nat) (G : LogI) (s : ByteArray) (W : World) (H : Nat) (ov ol : Value) (w : World) : Prop :=
  ∃ (acc : List Tq) (cs : List (Nat × Nat)) (r : List UInt8) (S : Nat → Prop) (uo fl : Nat) (P : Nat → Option Value) (n : Nat) (xs : List Value),
    LR b P s (nextB r).2.2.2 (s.size - (nextB r).2.1.length) (uo : Int) ((nextB r).2.2.1 : Int) (fl : Int) w ∧ LxS b G s (s.size - (nextB r).2.2.2.length) (cs ++ absC s.size (nextB r).1) S P w ∧
    AtB s (s.size - (nextB r).2.1.length) (nextB r).2.1 ∧ uo ≤ 65535 ∧ fl ≤ 2 ∧ (∀ ts cs', RunB s ts cs' r → RunB s (acc ++ ts) (cs ++ cs') s.data.toList) ∧
    w.ownsRow (b + 1) 66 5 ov acc.length (acc.flatMap tqC) ∧ w.ownsRow (b + 1) 125 3 ol n xs ∧ OneC xs ∧ n ≤ acc.length * 1048576 ∧ acc.length + r.length ≤ s.size ∧
    (∀ i, S i → ov.ownBlock ≠ some i ∧ ol.ownBlock ≠ some i) ∧ (∀ i, ov.ownBlock = some i → ol.ownBlock ≠ some i) ∧ Below G.gk W w ∧
    w.heap[H]? = some (.cells #[.slice none 0 0, .slice none 0 0, .slice none 0 0, .string ⟨#[]⟩, .int .i32 0, .int .i32 0, .int .i32 0] 59 (0, 0))
theorem run_more {s : ByteArray} {acc : List Tq} {cs : List (Nat × Nat)} {r : List UInt8} (h : ∀ ts cs', RunB s ts cs' r → RunB s (acc ++ ts) (cs ++ cs') s.data.toList) {uo fl : Nat} (hu : uo ≤ 65535) (hf : fl ≤ 2) (hk : (nextB r).2.2.1 ≠ 0) (hb : AtB s (s.size - (nextB r).2.1.length) (nextB r).2.1) (he : AtB s (s.size - (nextB r).2.2.2.length) (nextB r).2.2.2) :
    ∀ ts cs', RunB s ts cs' (nextB r).2.2.2 → RunB s ((acc ++ [⟨(nextB r).2.2.1, uo, fl, s.size - (nextB r).2.1.length, s.size - (nextB r).2.2.2.length⟩]) ++ ts) ((cs ++ absC s.size (nextB r).1) ++ cs') s.data.toList := by
  intro ts cs' ht
  rw [List.append_assoc, List.append_assoc]
  exact h _ _ ⟨cs', rfl, hk, hb, he, hu, hf, ht, rfl⟩
end Go.Proofs.YtmgkccnfhkcncaaGreatDoor

namespace Go.Proofs.YtmgkccnfhkcncaaGreatDoor
open Go.RowKit
attribute [local go_sem ↓] Go.wp_at_zero Go.wp_at_succ

theorem Fx.below {S : Nat → Prop} {w w' : World} {B : Nat} (f : Fx S w w') (h : ∀ i, S i → B ≤ i) (hB : B ≤ w.heap.size) : Below B w w' :=
  ⟨f.os, f.tape, f.output, f.size, fun k hk => f.block k (by omega) (fun hs => by have := h k hs; omega)⟩
theorem LxS.low {b : Nat} {G : LogI} {s : ByteArray} {k : Nat} {cs : List (Nat × Nat)} {S : Nat → Prop} {P : Nat → Option Value} {w : World} (h : LxS b G s k cs S P w) : ∀ i, S i → G.gk ≤ i := by
  obtain ⟨mv, cv, lv, nm, nL, hx, hS⟩ := h
  exact fun i hi => hx.low_own i ((hS i).1 hi)
theorem TB.up {c b : Nat} {w : World} (h : TB c w) (hcb : c ≤ b) : TB b w := by
  obtain ⟨w0, h1, h2, h3⟩ := h
  exact ⟨w0, h1, by omega, h3⟩
theorem own_fx {S : Nat → Prop} {w w' : World} {base : Nat} {e : TypeId} {size : Nat} {v : Value} {n : Nat} {xs : List Value} (h : w.ownsRow base e size v n xs) (f : Fx S w w') (hS : ∀ i, S i → v.ownBlock ≠ some i) : w'.ownsRow base e size v n xs :=
  row_own h fun k hk => f.block k (own_base h hk).2 (fun hs => hS k hs hk)
/-- Where the token begins that the lexer stands behind. -/
def leftQ (b z : Nat) (w : World) : Nat := z - (numOf (w.cell? ⟨b, 36, none⟩)).toNat
theorem LR.leftq {b : Nat} {P : Nat → Option Value} {s : ByteArray} {r : List UInt8} {st : Nat} {uo kd fl : Int} {w : World} (h : LR b P s r st uo kd fl w) : leftQ b s.size w = s.size - st := by
  obtain ⟨k, -, -, -, -, -, -, -, c36, -⟩ := h.reads
  unfold leftQ
  rw [c36]
  show s.size - ((st : Int)).toNat = _
  omega
/-- The lexer behind next: TkG goes on. -/
theorem tk_next {b : Nat} {G : LogI} {s : ByteArray} {W w w' : World} {H : Nat} {acc : List Tq} {cs : List (Nat × Nat)} {r : List UInt8} {S : Nat → Prop} {k n : Nat} {P : Nat → Option Value} {xs : List Value} {ov ol : Value} (hb : G.gk ≤ w.heap.size) (hX : LxS b G s k cs S P w) (h : NxG b G s cs S (nextB r) w w')
    (hrun : ∀ ts cs', RunB s ts cs' r → RunB s (acc ++ ts) (cs ++ cs') s.data.toList) (hov : w.ownsRow (b + 1) 66 5 ov acc.length (acc.flatMap tqC)) (hol : w.ownsRow (b + 1) 125 3 ol n xs) (hone : OneC xs) (hn : n ≤ acc.length * 1048576) (hlen : acc.length + r.length ≤ s.size)
    (hap : ∀ i, S i → ov.ownBlock ≠ some i ∧ ol.ownBlock ≠ some i) (hap2 : ∀ i, ov.ownBlock = some i → ol.ownBlock ≠ some i) (hB : Below G.gk W w) (hg : G.gh < H) (hHb : H < b)
    (hH : w.heap[H]? = some (.cells #[.slice none 0 0, .slice none 0 0, .slice none 0 0, .string ⟨#[]⟩, .int .i32 0, .int .i32 0, .int .i32 0] 59 (0, 0))) : TkG b G s W H ov ol w' := by
  obtain ⟨uo, fl, h1, h2, h3, P', S', g1, g2, g3, g4⟩ := h
  refine ⟨acc, cs, r, S', uo, fl, P', n, xs, g1, g2, h3, h1, h2, hrun, own_fx hov g3 (fun i hi => (hap i hi).1), own_fx hol g3 (fun i hi => (hap i hi).2), hone, hn, hlen, fun i hi => ?_, hap2, hB.trans (g3.below hX.low hb), (g3.block H (Array.getElem?_eq_some_iff.1 hH).1 (hX.notS hg hHb)).trans hH⟩
  rcases g4 i hi with h5 | h5
  · exact hap i h5
  · exact ⟨fun h6 => by have := (own_base hov h6).2; omega, fun h6 => by have := (own_base hol h6).2; omega⟩
end Go.Proofs.YtmgkccnfhkcncaaGreatDoor

namespace Go.Proofs.YtmgkccnfhkcncaaGreatDoor
open Go.RowKit
attribute [local go_sem ↓] Go.wp_at_zero Go.wp_at_succ

theorem LR.pcl {b : Nat} {P : Nat → Option Value} {s : ByteArray} {r : List UInt8} {st : Nat} {uo kd fl : Int} {w : World} (h : LR b P s r st uo kd fl w) (i : Nat) (hi : i < 32 ∨ i = 34) : w.cell? ⟨b, i, none⟩ = P i := by
  obtain ⟨-, -, -, kp, n, -, -, -, hB⟩ := h
  exact hB.p i hi
theorem grown_fx {w w' : World} {row : Option Nat} (g : w.grownBy w' row) : Fx (fun i => row = some i) w w' := ⟨g.os, g.tape, g.output, g.size, fun k hk hn => g.block k hk (fun e => hn e.symm)⟩
theorem Lx.grow {b : Nat} {G : LogI} {s : ByteArray} {k : Nat} {cs : List (Nat × Nat)} {mv cv lv : Value} {nm nL : Nat} {P : Nat → Option Value} {w w' : World} {row : Option Nat} (h : Lx b G s k cs mv cv lv nm nL P w) (f : w.grownBy w' row) (hr : ∀ i, row = some i → b < i) (hn : ∀ i, LxOwn b G mv cv lv i → row ≠ some i) : Lx b G s k cs mv cv lv nm nL P w' := by
  obtain ⟨xs, hx, hx1⟩ := h.legR
  obtain ⟨a1, a2, a3, a4, a5⟩ := h.lgs.apart
  have hl := h.low
  exact ⟨h.opt, h.log, h.trk, h.lgs.gro h.low (Gro.of f) (fun i hi => ⟨hr i hi, fun e => hn i (.inr (.inl (.inr (.inr (.inr e))))) hi⟩), h.low, h.old, h.smu, h.all, row_own h.allR (fun i hi => f.block i (own_base h.allR hi).2 (fun e => hn i (.inr (.inr (.inl hi))) e.symm)), h.leg, ⟨xs, row_own hx (fun i hi => f.block i (own_base hx hi).2 (fun e => hn i (.inr (.inr (.inr hi))) e.symm)), hx1⟩, h.apart, h.cnt,
    h.tab.fx (grown_fx f) (fun i hi => by have := hr i hi; omega)⟩
theorem LxS.grow {b : Nat} {G : LogI} {s : ByteArray} {k : Nat} {cs : List (Nat × Nat)} {S : Nat → Prop} {P : Nat → Option Value} {w w' : World} {row : Option Nat} (h : LxS b G s k cs S P w) (f : w.grownBy w' row) (hr : ∀ i, row = some i → b < i) (hn : ∀ i, S i → row ≠ some i) : LxS b G s k cs S P w' := by
  obtain ⟨mv, cv, lv, nm, nL, hx, hS⟩ := h
  exact ⟨mv, cv, lv, nm, nL, hx.grow f hr (fun i hi => hn i ((hS i).2 hi)), hS⟩
theorem row_form2 {w : World} {base : Nat} {e : TypeId} {size : Nat} {v : Value} {n : Nat} {xs : List Value} (h : w.ownsRow base e size v n xs) : (v = .slice none 0 0 ∧ n = 0) ∨ ∃ g cap, v = .slice (some ⟨g, 0, none⟩) n cap ∧ base ≤ g ∧ g < w.heap.size := by
  rcases h.2 with h1 | ⟨g, cap, cur, h1, h2, h3, -⟩
  · exact .inl h1
  · exact .inr ⟨g, cap, h1, h2, (Array.getElem?_eq_some_iff.1 h3).1⟩
/-- Is there a legal comment. -/
theorem leg_ask {w : World} {base : Nat} {e : TypeId} {v : Value} {n : Nat} {xs : List Value} (h : w.ownsRow base e 3 v n xs) : ∃ q : Bool, (∀ wx : World, (binOp .neq 51 v (.slice none 0 0)).run Tryz.prog wx = .ok (.bool q) wx) ∧ (q = true → ∃ g cap, v = .slice (some ⟨g, 0, none⟩) n cap ∧ base ≤ g ∧ g < w.heap.size) ∧ (q = false → v = .slice none 0 0 ∧ n = 0) := by
  rcases row_form2 h with ⟨rfl, rfl⟩ | ⟨g, cap, rfl, h1, h2⟩
  · exact ⟨false, fun wx => by kernel_rfl, fun h => (by cases h), fun _ => ⟨rfl, rfl⟩⟩
  · exact ⟨true, fun wx => by kernel_rfl, fun _ => ⟨g, cap, rfl, h1, h2⟩, fun h => (by cases h)⟩
theorem nextB_step {r X R : List UInt8} {C1 : List (Nat × Nat)} {kd : Nat} (h : nextB r = (C1, X, kd, R)) (hk : kd ≠ 0) : R.length < X.length := by
  have h1 : (nextB r).2.2.1 ≠ 0 := by rw [h]; exact hk
  have h2 := nextB_lt r (nextB_more h1)
  have h3 : (nextB r).2.1 = (skB r).2 := by
    unfold nextB
    rw [if_neg (nextB_more h1)]
    split <;> rfl
  rw [← h3, h] at h2
  exact h2
theorem grown_refl (w : World) (row : Option Nat) : w.grownBy w row := ⟨rfl, rfl, rfl, Nat.le_refl _, fun _ _ _ => rfl⟩
theorem leg_more {row : Option Nat} {wo wr w9 : World} {v9 : Value} {g9 m cap9 : Nat} (GR : wo.grownBy wr row) (AT : v9.ownBlock = row ∨ ∃ g, v9.ownBlock = some g ∧ wo.heap.size ≤ g) (o1 o2 : Obj) (hg : ((wr.alloc o1).alloc o2).grownBy w9 v9.ownBlock) (hat : v9.ownBlock = some g9 ∨ g9 = wr.heap.size + 1 + 1) :
    wo.grownBy w9 row ∧ ((Value.slice (some ⟨g9, 0, none⟩) m cap9).ownBlock = row ∨ ∃ g, (Value.slice (some ⟨g9, 0, none⟩) m cap9).ownBlock = some g ∧ wo.heap.size ≤ g) := by
  have h1 := GR.size
  have h2 := hg.size
  simp at h2
  have e : (Value.slice (some ⟨g9, 0, none⟩) m cap9).ownBlock = some g9 := rfl
  refine ⟨⟨hg.os.trans GR.os, hg.tape.trans GR.tape, hg.output.trans GR.output, by omega, fun k hk hn => ?_⟩, ?_⟩
  · rw [hg.block k (by simp; omega) ?_, Below.heap_alloc _ _ _ (by simp; omega), Below.heap_alloc _ _ _ (by omega), GR.block k hk hn]
    rcases AT with h | ⟨g, h, hg2⟩
    · rw [h]; exact hn
    · rw [h]
      intro e2
      injection e2 with e2
      omega
  · rw [e]
    rcases hat with h | h
    · rcases AT with h3 | ⟨g, h3, h4⟩
      · exact .inl (h.symm.trans h3)
      · rw [h] at h3
        injection h3 with h3
        exact .inr ⟨g9, rfl, by omega⟩
    · exact .inr ⟨g9, rfl, by omega⟩
/-- Behind the loop over legal comments. -/
theorem leg_end {b : Nat} {G : LogI} {s : ByteArray} {k : Nat} {cs : List (Nat × Nat)} {r : List UInt8} {st : Nat} {uo kd fl : Int} {n0 nL : Nat} {S : Nat → Prop} {P : Nat → Option Value} {mv cv lv : Value} {nm : Nat} {row : Option Nat} {w0 w : World} {v9 : Value} {ys : List Value} (hL : LR b P s r st uo kd fl w0) (hX : Lx b G s k cs mv cv lv nm nL P w0) (hS : ∀ i, S i ↔ LxOwn b G mv cv lv i) (hk : nL ≤ 1048576)
    (hr : ∀ i, row = some i → b < i) (hn : ∀ i, S i → row ≠ some i) (hown : w.ownsRow (b + 1) 125 3 v9 (n0 + nL) ys) (hone : OneC ys) (hat : v9.ownBlock = row ∨ ∃ g, v9.ownBlock = some g ∧ w0.heap.size ≤ g) (hg : w0.grownBy w row) :
    LegP b G s k cs r st uo kd fl n0 S row w0 v9 (w.setCell ⟨b, 18, none⟩ (.slice none 0 0)) := by
  refine ⟨n0 + nL, ys, LxOwn b G mv cv (.slice none 0 0), updP P 18 (.slice none 0 0), by omega, rowFr hown (Fr.setCell w 18 _) (by omega), hone, hat, (hL.gro hg hr).setP 18 (by omega) (by omega) _, ⟨mv, cv, .slice none 0 0, nm, 0, (hX.grow hg hr (fun i hi => hn i ((hS i).2 hi))).noL, fun _ => Iff.rfl⟩, fun i hi => ?_, (Gro.of hg).trans (Fr.setCell w 18 _).gro⟩
  rcases hi with hi | hi | hi | hi
  · exact (hS i).2 (.inl hi)
  · exact (hS i).2 (.inr (.inl hi))
  · exact (hS i).2 (.inr (.inr (.inl hi)))
  · cases hi
end Go.Proofs.YtmgkccnfhkcncaaGreatDoor

namespace Go.Proofs.YtmgkccnfhkcncaaGreatDoor
open Go.RowKit
attribute [local go_sem ↓] Go.wp_at_zero Go.wp_at_succ

set_option maxHeartbeats 16000000 in
set_option maxRecDepth 1000000 in
theorem tokzG (s : ByteArray) (G : LogI) (g1 g2 g3 g4 : Fn) (x1 x2 x3 x4 : Array Value) (w : World) (hT : TB G.gk w) (hs : s.size ≤ 1048576) (hb : hdB s.data.toList ≠ 65279) (hN : LgN G w) (hgh : G.gh < w.heap.size) (hG : G.val = #[.func g1 #[] x1, .func g2 #[] x2, .func g3 #[] x3, .func g4 #[] x4, .int .i8 3, .map none]) :
    Calls Tryz.prog 60 #[.agg #[.func g1 #[] x1, .func g2 #[] x2, .func g3 #[] x3, .func g4 #[] x4, .int .i8 3, .map none], .agg (srcC s), .agg #[.bool true]] w fun e w' => TokzP s G w e w' := by
  obtain ⟨i0, hi, hz0, hz1, hz2⟩ := parts_of infoTokC
  have T := Lib.hid hT
  have HBM := Lib.hid hb
  have HN := Lib.hid hN
  have HG := Lib.hid hG
  have GH := Lib.hid hgh
  clear hT hb hN hG hgh
  unfold srcC
  go_enter Tryz.func60, Tryz.ntmps60
  go_upto_region 1 with fail
  obtain ⟨B, hB⟩ : ∃ B, w.heap.size = B := ⟨_, rfl⟩
  obtain ⟨w0, hw0⟩ : ∃ x, ((((w.alloc (.cells #[.func g1 #[] x1, .func g2 #[] x2, .func g3 #[] x3, .func g4 #[] x4, .int .i8 3, .map none] 83)).alloc (.cells #[.string ⟨#[]⟩, .string ⟨#[]⟩, .string ⟨#[]⟩, .string s, .string ⟨#[]⟩, .string ⟨#[]⟩, .string ⟨#[]⟩, .string ⟨#[]⟩, .int .u8 0, .int .u32 0] 96)).alloc (.cells #[.bool true] 98)).alloc (.cells #[.slice none 0 0, .slice none 0 0, .slice none 0 0, .string ⟨#[]⟩, .int .i32 0, .int .i32 0, .int .i32 0] 59)) = x := ⟨_, rfl⟩
  have K0 := Lib.hid (show w0.heap[B]? = some (.cells #[.func g1 #[] x1, .func g2 #[] x2, .func g3 #[] x3, .func g4 #[] x4, .int .i8 3, .map none] 83 (0, 0)) by rw [← hw0, ← hB]; exact heap4_0 w _ _ _ _ _)
  have K1 := Lib.hid (show w0.heap[B + 1]? = some (.cells (srcC s) 96 (0, 0)) by rw [← hw0, ← hB]; exact heap4_1 w _ _ _ _ _)
  have K2 := Lib.hid (show w0.heap[B + 1 + 1]? = some (.cells #[.bool true] 98 (0, 0)) by rw [← hw0, ← hB]; exact heap4_2 w _ _ _ _ _)
  have K3 := Lib.hid (show w0.heap[B + 1 + 1 + 1]? = some (.cells #[.slice none 0 0, .slice none 0 0, .slice none 0 0, .string ⟨#[]⟩, .int .i32 0, .int .i32 0, .int .i32 0] 59 (0, 0)) by rw [← hw0, ← hB]; exact heap4_3 w _ _ _ _ _)
  have W0 := Lib.hid (show Below w.heap.size w w0 by rw [← hw0]; exact ((((Below.refl _ _).alloc (Nat.le_refl _) _).alloc (by simp) _).alloc (by simp; omega) _).alloc (by simp; omega) _)
  have Z0 := Lib.hid (show w0.heap.size = B + 4 by rw [← hw0, ← hB]; simp)
  rw [hw0, hB]
  have hBW := Lib.hid hB
  have l0 : B < w0.heap.size := by rw [Z0.out]; omega
  have l1 : B + 1 < w0.heap.size := by rw [Z0.out]; omega
  have l2 : B + 1 + 1 < w0.heap.size := by rw [Z0.out]; omega
  have MLT := Lib.hid (fun w1 (hw1 : Below w0.heap.size w0 w1) => mltI (B + 1) s w1 ((hw1.block _ l1).trans K1.out))
  clear hw0 hB
  go_cut [7] (fun v wx => TokS s g1 g2 g3 g4 x1 x2 x3 x4 w0 v wx)
  case first =>
    refine wp_region_noPanic ?_
    refine wp_region_held_drew (S := fun w' => Below w0.heap.size w0 w') (by kernel_rfl) (Below.drew (Below.refl _ _)) (fun hH => ?_)
    refine wpAnyH_take (i := 0) (oi := ?oi0) (v := .agg (#[.bool true])) ?hi0 (by kernel_rfl) (by kernel_rfl) (by kernel_rfl) ?hq0 ?hy0 hH ?re0
    case hi0 => simp only [List.getElem?_toArray, List.getElem?_cons_zero]; rfl
    case hq0 => exact fun _ _ _ h => h
    case hy0 => exact yieldsBlk (by rfl) 98 _ rfl (B + 1 + 1) rfl _ _ _ _ (fun w1 h1 => (h1.block _ l2).trans K2.out) Tryz.underlying98 rfl infoOptT
    case re0 =>
    try simp only [Act.put, List.setIfInBounds_toArray, List.set_cons_zero, List.set_cons_succ]
    refine wpAnyH_take (i := 1) (oi := ?oi1) (v := .agg (#[.func g1 #[] x1, .func g2 #[] x2, .func g3 #[] x3, .func g4 #[] x4, .int .i8 3, .map none])) ?hi1 (by kernel_rfl) (by kernel_rfl) (by kernel_rfl) ?hq1 ?hy1 hH ?re1
    case hi1 => simp only [List.getElem?_toArray, List.getElem?_cons_zero, List.getElem?_cons_succ]; rfl
    case hq1 => exact fun _ _ _ h => h
    case hy1 => exact yieldsBlk (by rfl) 83 _ rfl (B) rfl _ _ _ _ (fun w1 h1 => (h1.block _ l0).trans K0.out) Tryz.underlying83 rfl infoLogT
    case re1 =>
    try simp only [Act.put, List.setIfInBounds_toArray, List.set_cons_zero, List.set_cons_succ]
    refine wpAnyH_take (i := 2) (oi := ?oi2) (v := .agg (srcC s)) ?hi2 (by kernel_rfl) (by kernel_rfl) (by kernel_rfl) ?hq2 ?hy2 hH ?re2
    case hi2 => simp only [List.getElem?_toArray, List.getElem?_cons_zero, List.getElem?_cons_succ]; rfl
    case hq2 => exact fun _ _ _ h => h
    case hy2 => exact yieldsBlk (by rfl) 96 _ rfl (B + 1) rfl _ _ _ _ (fun w1 h1 => (h1.block _ l1).trans K1.out) Tryz.underlying96 rfl infoSrcT
    case re2 =>
    try simp only [Act.put, List.setIfInBounds_toArray, List.set_cons_zero, List.set_cons_succ]
    refine wpAnyH_ready (rs := [3, 5]) (by kernel_rfl) (by simp) ?_
    refine AllReadyH.cons (o := ?oA) ?hoA (fun K hK => ?hA) ?hsA
    case hoA => simp only [List.getElem?_toArray, List.getElem?_cons_zero, List.getElem?_cons_succ]; rfl
    case hA =>
      rw [if_pos (by rfl)]
      go_simp
      refine (MLT.out _ hH).mono ?_
      rintro e w1 ⟨rfl, rfl⟩
      have hA := Below.drew (Below.alloc hH hH.size (.cells (trkC s) 119))
      obtain ⟨wa, hwa⟩ : ∃ x, (w0.drew.alloc (.cells (trkC s) 119)).drew = x := ⟨_, rfl⟩
      rw [hwa] at hA ⊢
      refine hK.out _ _ hA (fun hH => ?_)
      clear hK K hwa hA
      try simp only [Act.put, List.setIfInBounds_toArray, List.set_cons_zero, List.set_cons_succ]
      refine wpAnyH_take (i := 4) (oi := ?oi4a) (v := .agg (lexC s g1 g2 g3 g4 x1 x2 x3 x4)) ?hi4a (by kernel_rfl) (by kernel_rfl) (by kernel_rfl) ?hq4a ?hy4a hH ?re4a
      case hi4a => simp only [List.getElem?_toArray, List.getElem?_cons_zero, List.getElem?_cons_succ]; rfl
      case hq4a => exact fun _ _ _ h => h
      case hy4a => exact .inl ⟨by rfl, fun w1 h1 => runBuild w1 _ _ rfl _ (by kernel_rfl)⟩
      case re4a =>
      try simp only [Act.put, List.setIfInBounds_toArray, List.set_cons_zero, List.set_cons_succ]
      refine wpAnyH_ready (rs := [5]) (by kernel_rfl) (by simp) ?_
      refine AllReadyH.cons (o := ?oB) ?hoB (fun K hK => ?hB) AllReadyH.nil
      case hoB => simp only [List.getElem?_toArray, List.getElem?_cons_zero, List.getElem?_cons_succ]; rfl
      case hB =>
      rw [if_pos (by rfl)]
      go_simp
      have hz := hH.size
      refine hK.out _ _ (Below.alloc hH hH.size _) (fun hH => ?_)
      clear hK K
      try simp only [Act.put, List.setIfInBounds_toArray, List.set_cons_zero, List.set_cons_succ]
      refine wpAnyH_ready (rs := [6]) (by kernel_rfl) (by simp) ?_
      refine AllReadyH.cons (o := ?oSa) ?hoSa (fun K hK => ?hSa) AllReadyH.nil
      case hoSa => simp only [List.getElem?_toArray, List.getElem?_cons_zero, List.getElem?_cons_succ]; rfl
      case hSa =>
      rw [if_pos (by rfl)]
      refine wp_store_row 123 _ _ rfl (wa.heap.size) (lexC s g1 g2 g3 g4 x1 x2 x3 x4) rfl rfl 123 _ (heap_alloc_new wa _) infoLexT rfl (by kernel_rfl) ?_
      refine hK.out _ _ (below_setRow hH (by exact hz) _) (fun hH2 => ?_)
      clear hK K
      try simp only [Act.put]
      refine wpAnyH_done (by kernel_rfl) ?_ _
      refine NoPanic.normal ?_
      go_wp2_with fail
      go_meet
      exact ⟨_, rfl, hz, setRow_heap _ _ _ _ _ _ (heap_alloc_new wa _), hH2⟩
    case hsA =>
      refine AllReadyH.cons (o := ?oC) ?hoC (fun K hK => ?hC) AllReadyH.nil
      case hoC => simp only [List.getElem?_toArray, List.getElem?_cons_zero, List.getElem?_cons_succ]; rfl
      case hC =>
      rw [if_pos (by rfl)]
      go_simp
      refine hK.out _ _ (Below.alloc hH hH.size _) (fun hH => ?_)
      clear hK K
      try simp only [Act.put, List.setIfInBounds_toArray, List.set_cons_zero, List.set_cons_succ]
      refine wpAnyH_ready (rs := [3]) (by kernel_rfl) (by simp) ?_
      refine AllReadyH.cons (o := ?oD) ?hoD (fun K hK => ?hD) AllReadyH.nil
      case hoD => simp only [List.getElem?_toArray, List.getElem?_cons_zero, List.getElem?_cons_succ]; rfl
      case hD =>
      rw [if_pos (by rfl)]
      go_simp
      refine (MLT.out _ hH).mono ?_
      rintro e w1 ⟨rfl, rfl⟩
      refine hK.out _ _ (Below.drew (Below.alloc hH hH.size _)) (fun hH => ?_)
      clear hK K
      try simp only [Act.put, List.setIfInBounds_toArray, List.set_cons_zero, List.set_cons_succ]
      refine wpAnyH_take (i := 4) (oi := ?oi4b) (v := .agg (lexC s g1 g2 g3 g4 x1 x2 x3 x4)) ?hi4b (by kernel_rfl) (by kernel_rfl) (by kernel_rfl) ?hq4b ?hy4b hH ?re4b
      case hi4b => simp only [List.getElem?_toArray, List.getElem?_cons_zero, List.getElem?_cons_succ]; rfl
      case hq4b => exact fun _ _ _ h => h
      case hy4b => exact .inl ⟨by rfl, fun w1 h1 => runBuild w1 _ _ rfl _ (by kernel_rfl)⟩
      case re4b =>
      try simp only [Act.put, List.setIfInBounds_toArray, List.set_cons_zero, List.set_cons_succ]
      refine wpAnyH_ready (rs := [6]) (by kernel_rfl) (by simp) ?_
      refine AllReadyH.cons (o := ?oSb) ?hoSb (fun K hK => ?hSb) AllReadyH.nil
      case hoSb => simp only [List.getElem?_toArray, List.getElem?_cons_zero, List.getElem?_cons_succ]; rfl
      case hSb =>
      rw [if_pos (by rfl)]
      refine wp_store_row 123 _ _ rfl (w0.heap.size) (lexC s g1 g2 g3 g4 x1 x2 x3 x4) rfl rfl 123 _ ((Below.heap_alloc _ _ _ (by simp)).trans (heap_alloc_new w0.drew _)) infoLexT rfl (by kernel_rfl) ?_
      refine hK.out _ _ (below_setRow hH (by exact Nat.le_refl _) _) (fun hH2 => ?_)
      clear hK K
      try simp only [Act.put]
      refine wpAnyH_done (by kernel_rfl) ?_ _
      refine NoPanic.normal ?_
      go_wp2_with fail
      go_meet
      exact ⟨_, rfl, Nat.le_refl _, setRow_heap _ _ _ _ _ _ ((Below.heap_alloc _ _ _ (by simp)).trans (heap_alloc_new w0.drew _)), hH2⟩
  case rest =>
    obtain ⟨b, rfl, hb0, hcb, hbw⟩ := hcut
    have hzz := Z0.out
    have hbB : B + 4 ≤ b := by omega
    have WB := Lib.hid (show Below w.heap.size w wc from W0.out.trans (below_le0 hbw (by have := W0.out.size; omega)))
    have HK3 := Lib.hid ((hbw.block _ (by omega)).trans K3.out)
    have hlb : w.heap.size + 4 ≤ b := by rw [hBW.out]; omega
    have ghw := GH.out
    obtain ⟨ga1, ga2, ga3⟩ := HN.out.apart
    have hbl : b < wc.heap.size := (Array.getElem?_eq_some_iff.1 hcb).1
    have hTg : TB G.gk wc := T.out.frl (b := b) (by omega) (Fr.of WB.out)
    have hX0 := lx_new (b := b) (s := s) HG.out (HN.out.below WB.out ghw) (by omega) hbl hTg
    have hL0 : LB b (fun i => (lexC s g1 g2 g3 g4 x1 x2 x3 x4)[i]?) (0 : Nat) (0 : Nat) 0 (0 : Nat) 0 0 0 0 wc := ⟨lexC s g1 g2 g3 g4 x1 x2 x3 x4, hcb, rfl, fun _ _ => rfl, rfl, rfl, rfl, rfl, rfl, rfl, rfl, rfl⟩
    obtain ⟨Pc, hPc⟩ : ∃ f : Nat → Option Value, (fun i => (lexC s g1 g2 g3 g4 x1 x2 x3 x4)[i]?) = f := ⟨_, rfl⟩
    have p10 : Pc 10 = some (.string s) := by rw [← hPc]; rfl
    rw [hPc] at hL0 hX0
    obtain ⟨S0, hS0⟩ : ∃ S, LxOwn b G (.slice none 0 0) (.slice none 0 0) (.slice none 0 0) = S := ⟨_, rfl⟩
    rw [hS0] at hX0
    have STEP := Lib.hid (stepR b Pc s s.data.toList 0 0 0 0 0 0 0 0 wc (hTg.up (by omega)) p10 (by omega) ⟨List.drop_zero, Nat.zero_le _⟩ (Nat.le_refl _) (Nat.le_refl _) hL0)
    have HX0 := Lib.hid hX0
    clear hL0 hPc hcb hbw hzz p10 hTg hX0 hS0 ga1 ga2 ga3
    go_wp2_with fail
    refine (STEP.out).mono ?_
    rintro e w1 ⟨rfl, hL1, f1⟩
    have t0 : (hdB s.data.toList == 65279) = false := beq_eq_false_iff_ne.2 HBM.out
    obtain ⟨-, -, -, -, -, -, -, c35, -, -⟩ := hL1.reads
    have X1 := Lib.hid (HX0.out.fr (k' := 0) f1 (Nat.le_refl _))
    have NX1 := Lib.hid (nextG b G Pc s s.data.toList 0 0 0 0 0 [] S0 w1 hL1 X1.out ⟨List.drop_zero, Nat.zero_le _⟩)
    have GKW := Lib.hid (show G.gk ≤ w.heap.size by obtain ⟨q1, q2, q3⟩ := HN.out.apart; omega)
    have WB1 := Lib.hid (show Below G.gk w w1 from (below_le0 WB.out GKW.out).trans (f1.below (by have := GKW.out; omega) (by have := WB.out.size; have := GKW.out; omega)))
    have HR1 := Lib.hid ((f1.block (B + 1 + 1 + 1) (by have := (Array.getElem?_eq_some_iff.1 HK3.out).1; omega) (by omega)).trans HK3.out)
    have HHG := Lib.hid (show G.gh < B + 1 + 1 + 1 by have := hBW.out; omega)
    have HHB := Lib.hid (show B + 1 + 1 + 1 < b by omega)
    clear f1 hL1 ghw
    go_wp2_with fail
    refine (NX1.out).mono ?_
    rintro e w2 ⟨rfl, hN⟩
    have START := Lib.hid (show TkG b G s w (B + 1 + 1 + 1) (.slice none 0 0) (.slice none 0 0) w2 from tk_next (acc := []) (n := 0) (xs := []) (by have := WB1.out.size; have := GKW.out; omega) X1.out hN (fun ts cs' h => h) (World.ownsRow_nil _ _ _ _) (World.ownsRow_nil _ _ _ _) OneC.nil (Nat.zero_le _) (by simp) (fun i _ => ⟨fun h => (by cases h), fun h => (by cases h)⟩) (fun i h => (by cases h)) WB1.out HHG.out HHB.out HR1.out)
    clear hN c35 t0
    go_wp2_with fail
    go_loopw [8, 9] (fun ov ol wr => TkG b G s w (B + 1 + 1 + 1) ov ol wr) (fun _ _ wr => leftQ b s.size wr)
    case atStart => exact START.out
    case round =>
      obtain ⟨acc, cs, r, S, uo, fl, P, n, xs, hL, hX, hA, hu, hf, hrun, hov, hol, hone, hn, hlen, hap, hap2, hB, hH⟩ := hrel
      clear START
      have hov2 := hov
      obtain ⟨ova, ovc, rfl⟩ := rowForm hov
      obtain ⟨ol, rfl⟩ : ∃ y : Value, y = u9 := ⟨_, rfl⟩
      obtain ⟨wo, rfl⟩ : ∃ y : World, y = wr := ⟨_, rfl⟩
      have HL := Lib.hid hL
      have HA := Lib.hid hA
      have HRUN := Lib.hid hrun
      have HOV := Lib.hid hov
      have HOL := Lib.hid hol
      have HONE := Lib.hid hone
      have HAP := Lib.hid hap
      have HAP2 := Lib.hid hap2
      have HB := Lib.hid hB
      have HH := Lib.hid hH
      have HFU := Lib.hid (And.intro hu hf)
      obtain ⟨mv, cv, lv, nm, nL, hx, hS⟩ := hX
      obtain ⟨ls, hls, hls1⟩ := hx.legR
      obtain ⟨q, hq, hq1, hq0⟩ := leg_ask hls
      have HXR := Lib.hid hx
      have HSR := Lib.hid hS
      have HLEG := Lib.hid hls
      have HLEG1 := Lib.hid hls1
      have HQ1 := Lib.hid hq1
      have HQ0 := Lib.hid hq0
      have c18 := (hL.pcl 18 (by omega)).trans hx.leg
      have z18 := hL.fz 18
      have c39 := hL.c3940.1
      have hlr := hL.lt
      have hnl : nL ≤ 1048576 := by have := hx.cnt.2.2; omega
      obtain ⟨⟨C1, X, kd, R⟩, hnx⟩ : ∃ y, nextB r = y := ⟨_, rfl⟩
      have HNX := Lib.hid hnx
      rw [hnx] at HL HA HXR c39
      dsimp only at HL HA HXR c39
      have HXX := Lib.hid HXR.out
      have HSS := Lib.hid HSR.out
      clear hov2 hL hA hrun hov hol hone hap hap2 hB hH hx hS hls hls1 hq1 hq0 hnx hu hf HXR HSR
      by_cases hk0 : kd = 0
      · have t1 : ((kd : Int) == 0) = true := beq_iff_eq.2 (by omega)
        have t2 : ((kd : Int) != 0) = false := by rw [hk0]; rfl
        go_upto_region 19 with fail
        go_cut [57] (fun v wx => v = .bool q ∧ wx = wo)
        case first =>
          cases q
          · obtain ⟨rfl, rfl⟩ := HQ0.out (by first | rfl | trivial)
            go_wp2_with fail
            go_meet
            exact ⟨rfl, rfl⟩
          · obtain ⟨g, cap, rfl, -, -⟩ := HQ1.out (by first | rfl | trivial)
            go_wp2_with fail
            go_meet
            exact ⟨rfl, rfl⟩
        case rest =>
        obtain ⟨rfl, hwc⟩ := hcut
        obtain rfl : wo = wc := hwc.symm
        go_upto_if 57 with fail
        go_cut [9] (fun v9 wx => LegP b G s (s.size - R.length) (cs ++ absC s.size C1) R (s.size - X.length) (uo : Int) (kd : Int) (fl : Int) n S ol.ownBlock wo v9 wx)
        case first =>
          as_aux_lemma =>
          cases q
          · obtain ⟨rfl, rfl⟩ := HQ0.out (by first | rfl | trivial)
            go_wp2_with fail
            go_meet
            exact ⟨n, xs, S, P, by omega, HOL.out, HONE.out, .inl rfl, HL.out, ⟨_, _, _, _, _, HXX.out, HSS.out⟩, fun _ h => h, (Fr.refl b wo).gro⟩
          · obtain ⟨g, cap, rfl, hgb, hgl⟩ := HQ1.out (by first | rfl | trivial)
            obtain ⟨L, hLc⟩ := HLEG1.out
            have LEGR := Lib.hid (show wo.ownsRow (b + 1) 125 3 (.slice (some ⟨g, 0, none⟩) nL cap) nL (L.flatMap cmC) by rw [← hLc]; exact HLEG.out)
            have LLEN := Lib.hid (cm_len LEGR.out)
            have HNR := Lib.hid (show ∀ i, S i → ol.ownBlock ≠ some i from fun i hi => (HAP.out i hi).2)
            have HGR := Lib.hid (show ol.ownBlock ≠ some g from HNR.out g ((HSS.out g).2 (.inr (.inr (.inr rfl)))))
            have HROW := Lib.hid (show ∀ i, ol.ownBlock = some i → b < i from fun i hi => by have := (own_base HOL.out hi).1; omega)
            obtain ⟨i2, hi2, hy0, hy1, hy2⟩ := parts_of infoCmtC
            clear hLc
            go_wp2_with fail
            go_loopw [9, 61] (fun v9 vi wr2 => LegR b n nL ol.ownBlock wo v9 vi wr2) (fun _ vi _ => nL - (numOf (some vi)).toNat)
            case atStart => exact ⟨0, xs, rfl, Nat.zero_le _, HOL.out, HONE.out, .inl rfl, grown_refl _ _⟩
            case round =>
              obtain ⟨i, ys, rfl, hil, hown, hone2, hat2, hgr⟩ := hrel
              have OWN := Lib.hid hown
              have ONE2 := Lib.hid hone2
              have AT2 := Lib.hid hat2
              have GR := Lib.hid hgr
              clear hown hone2 hat2 hgr
              by_cases hi3 : i < nL
              · have g1 : decide ((i : Int) < (nL : Int)) = true := decide_eq_true (by omega)
                obtain ⟨⟨p1, p2, p3⟩, hp⟩ : ∃ p, L[i]? = some p := ⟨_, List.getElem?_eq_getElem (by rw [LLEN.out]; exact hi3)⟩
                have CM := Lib.hid (fun j u hj => (GR.out.cell_far ⟨g, i * 3 + j, none⟩ hgl (Ne.symm HGR.out)).trans (cm_cells LEGR.out rfl hp j u hj))
                have d0 : wr.cell? ⟨g, i * 3, none⟩ = some (.string p1) := CM.out 0 _ rfl
                have d1 : wr.cell? ⟨g, i * 3 + 1, none⟩ = some (.int .i32 p2) := CM.out 1 _ rfl
                have d2 : wr.cell? ⟨g, i * 3 + 2, none⟩ = some (.int .u32 p3) := CM.out 2 _ rfl
                have i1 : (0 : Int) ≤ (i : Int) := by omega
                have i2' : (i : Int) < (nL : Int) := by omega
                have i3 : ((i : Int)).toNat = i := by omega
                clear hp
                go_upto_region 24 with fail
                obtain ⟨C5, hC5⟩ : ∃ x, wr.heap.size = x := ⟨_, rfl⟩
                obtain ⟨w5, hw5⟩ : ∃ x, wr.alloc (.cells #[.string p1, .int .i32 p2, .int .u32 (acc.length : Int)] 125) = x := ⟨_, rfl⟩
                have HC5 := Lib.hid (show w5.heap[C5]? = some (.cells #[.string p1, .int .i32 p2, .int .u32 (acc.length : Int)] 125 (0, 0)) by rw [← hw5, ← hC5]; exact heap_alloc_new wr _)
                have OWN5 := Lib.hid (show w5.ownsRow (b + 1) 125 3 _ (n + i) ys by rw [← hw5]; exact OWN.out.alloc _)
                have hs5 : w5.heap.size = C5 + 1 := by rw [← hw5, ← hC5]; simp
                have HW5 := Lib.hid hw5
                have HCS := Lib.hid hC5
                have HS5 := Lib.hid hs5
                rw [hC5, hw5]
                have m0 : w5.cell? ⟨C5, 0, none⟩ = some (.string p1) := (by rw [Lib.cell_of_heap HC5.out]; rfl)
                have m1 : w5.cell? ⟨C5, 1, none⟩ = some (.int .i32 p2) := (by rw [Lib.cell_of_heap HC5.out]; rfl)
                have m2 : w5.cell? ⟨C5, 2, none⟩ = some (.int .u32 (acc.length : Int)) := (by rw [Lib.cell_of_heap HC5.out]; rfl)
                have hb5 : b + 1 ≤ w5.heap.size := by have h1 := GR.out.size; omega
                clear hw5 hC5 d0 d1 d2 hs5
                go_wp2_with (at_builtin; refine wpList_append_lies _ rfl _ _ 51 rfl (b + 1) 125 i2 _ 3 24 Tryz.underlying51 hi2 hy0 hy1 hy2 rfl (by decide) _ (n + i) ys rfl (OWN5.out.alloc _) ⟨w5.heap.size, 0, none⟩ 1 1 [.string p1, .int .i32 p2, .int .u32 (acc.length : Int)] rfl rfl (World.news_of_block (heap_alloc_new w5 _)) (fun u hu => by simp at hu; rcases hu with rfl | rfl | rfl <;> rfl) (by decide) (by unfold maxLen; omega) (by omega) (by simp; omega) (w5.heap.size + 1) (by simp) ?_; intro g9 cap9 w9 hown9 hgrow9 hat9 hlt9)
                have OWN9 := Lib.hid hown9
                have MORE := Lib.hid (leg_more (m := n + i + 1) (cap9 := cap9) GR.out AT2.out _ _ (by rw [← HW5.out] at hgrow9; exact hgrow9) (hat9.imp id fun e => by rw [e, HS5.out, HCS.out]))
                clear hown9 hgrow9 hat9 hlt9 m0 m1 m2
                go_roundw
                case rel => exact ⟨i + 1, _, by go_num, hi3, OWN9.out, ONE2.out.more _ _ _, MORE.out.2, MORE.out.1⟩
                case measure =>
                  show nL - ((i : Int) + 1).toNat < nL - (i : Int).toNat
                  omega
              · have g1 : decide ((i : Int) < (nL : Int)) = false := decide_eq_false (by omega)
                obtain rfl : i = nL := by omega
                have cc18 := ((HL.out.gro GR.out HROW.out).pcl 18 (by omega)).trans HXX.out.leg
                have zz18 := (HL.out.gro GR.out HROW.out).fz 18
                have LEND := Lib.hid (leg_end HL.out HXX.out HSS.out hnl HROW.out HNR.out OWN.out ONE2.out AT2.out GR.out)
                go_wp2_with fail
                go_meet
                exact LEND.out
        case rest =>
          obtain ⟨n2, xs2, S2, P2, hn2, hol2, hone2, hat2, hL2, hX2, hsub2, hg2⟩ := hcut
          have OV2 := Lib.hid (row_own HOV.out (fun k hk => hg2.block k (own_base HOV.out hk).2 (by have := (own_base HOV.out hk).1; omega) (HAP2.out k hk)) : wc.ownsRow (b + 1) 66 5 (.slice ova acc.length ovc) acc.length (acc.flatMap tqC))
          have HH2 := Lib.hid ((hg2.block (B + 1 + 1 + 1) (Array.getElem?_eq_some_iff.1 HH.out).1 (by omega) (fun e => by have := (own_base HOL.out e).1; omega)).trans HH.out)
          have B2 := Lib.hid (show Below G.gk w wc from HB.out.trans ((hg2.fx (S := fun i => G.gk ≤ i) (by have := GKW.out; omega) (fun i hi => by have := (own_base HOL.out hi).1; have := GKW.out; omega)).below (fun i hi => hi) (by have := HB.out.size; have := GKW.out; omega)))
          have RUN := Lib.hid (show RunB s acc (cs ++ absC s.size C1) s.data.toList by
            have h := HRUN.out [] (absC s.size C1) ⟨by rw [HNX.out]; exact hk0, by rw [HNX.out]⟩
            rwa [List.append_nil] at h)
          obtain ⟨mv2, cv2, lv2, nm2, nL2, hx2, hS2⟩ := hX2
          obtain ⟨⟨tsm, htsm⟩, ⟨xsm, hxsm⟩, ysm, hysm⟩ := hx2.smu
          obtain ⟨cq, hcq⟩ : ∃ x, (cs ++ absC s.size C1).length = x := ⟨_, rfl⟩
          have hcv := hx2.allR
          rw [hcq] at hcv
          obtain ⟨ca, cc, rfl⟩ := rowForm hcv
          obtain ⟨la, lc, rfl⟩ := rowForm hol2
          have HCNT := Lib.hid (show (cs ++ absC s.size C1).length ≤ s.size by have := hx2.cnt.2.1; omega)
          have HCQ := Lib.hid hcq
          have CV3 := Lib.hid hcv
          have e17 := (hL2.pcl 17 (by omega)).trans hx2.all
          have e19 := (hL2.pcl 19 (by omega)).trans htsm
          have e20 := (hL2.pcl 20 (by omega)).trans hxsm
          have e21 := (hL2.pcl 21 (by omega)).trans hysm
          obtain ⟨nz, e32⟩ := hL2.c32
          have q0 : wc.cell? ⟨B + 1 + 1 + 1, 0, none⟩ = some (.slice none 0 0) := by rw [Lib.cell_of_heap HH2.out]; rfl
          have z0 := Lib.frozen_of_heap HH2.out 0
          have q1 : wc.cell? ⟨B + 1 + 1 + 1, 1, none⟩ = some (.slice none 0 0) := by rw [Lib.cell_of_heap HH2.out]; rfl
          have z1 := Lib.frozen_of_heap HH2.out 1
          have q2 : wc.cell? ⟨B + 1 + 1 + 1, 2, none⟩ = some (.slice none 0 0) := by rw [Lib.cell_of_heap HH2.out]; rfl
          have z2 := Lib.frozen_of_heap HH2.out 2
          have q3 : wc.cell? ⟨B + 1 + 1 + 1, 3, none⟩ = some (.string ⟨#[]⟩) := by rw [Lib.cell_of_heap HH2.out]; rfl
          have z3 := Lib.frozen_of_heap HH2.out 3
          have q4 : wc.cell? ⟨B + 1 + 1 + 1, 4, none⟩ = some (.int .i32 0) := by rw [Lib.cell_of_heap HH2.out]; rfl
          have z4 := Lib.frozen_of_heap HH2.out 4
          have q5 : wc.cell? ⟨B + 1 + 1 + 1, 5, none⟩ = some (.int .i32 0) := by rw [Lib.cell_of_heap HH2.out]; rfl
          have z5 := Lib.frozen_of_heap HH2.out 5
          have q6 : wc.cell? ⟨B + 1 + 1 + 1, 6, none⟩ = some (.int .i32 0) := by rw [Lib.cell_of_heap HH2.out]; rfl
          have z6 := Lib.frozen_of_heap HH2.out 6
          clear hcv hcq hn2 hol2 hone2 hat2 hL2 hsub2 hg2 hx2 hS2 htsm hxsm hysm c18 z18 c39
          go_wp2_with fail
          have hput := heap_put (heap_put (heap_put (heap_put (heap_put (heap_put (heap_put HH2.out 0 (.slice ova acc.length ovc)) 1 (.slice ca cq cc)) 2 (.slice la n2 lc)) 3 (.string tsm)) 4 (.int .i32 xsm)) 5 (.int .i32 ysm)) 6 (.int .i32 (wrap32 (wrap32 (nz : Int) + 1)))
          have hbe : G.gk ≤ B + 1 + 1 + 1 := by have h1 := GKW.out; have h2 := hBW.out; omega
          refine bodyPost_ret (results_cell_row (P := Tryz.prog) rfl _ _ (B + 1 + 1 + 1) _ #[.slice ova acc.length ovc, .slice ca cq cc, .slice la n2 lc, .string tsm, .int .i32 xsm, .int .i32 ysm, .int .i32 (wrap32 (wrap32 (nz : Int) + 1))] _ _ rfl hput Tryz.underlying59 rfl infoResC) rfl ?_
          have hH7 : B + 1 + 1 + 1 < b + 1 := by have := HHB.out; omega
          refine ⟨acc, cs ++ absC s.size C1, _, _, _, _, _, _, _, _, _, rfl, RUN.out, HCNT.out, rowBase (rowFr (rowFr (rowFr (rowFr (rowFr (rowFr (rowFr OV2.out (Fr.setCell _ _ _) hH7) (Fr.setCell _ _ _) hH7) (Fr.setCell _ _ _) hH7) (Fr.setCell _ _ _) hH7) (Fr.setCell _ _ _) hH7) (Fr.setCell _ _ _) hH7) (Fr.setCell _ _ _) hH7) (by omega), rowBase (rowFr (rowFr (rowFr (rowFr (rowFr (rowFr (rowFr (by rw [HCQ.out]; exact CV3.out) (Fr.setCell _ _ _) hH7) (Fr.setCell _ _ _) hH7) (Fr.setCell _ _ _) hH7) (Fr.setCell _ _ _) hH7) (Fr.setCell _ _ _) hH7) (Fr.setCell _ _ _) hH7) (Fr.setCell _ _ _) hH7) (by omega), ?_⟩
          exact ((((((B2.out.setCell (p := ⟨B + 1 + 1 + 1, _, none⟩) hbe _).setCell (p := ⟨B + 1 + 1 + 1, _, none⟩) hbe _).setCell (p := ⟨B + 1 + 1 + 1, _, none⟩) hbe _).setCell (p := ⟨B + 1 + 1 + 1, _, none⟩) hbe _).setCell (p := ⟨B + 1 + 1 + 1, _, none⟩) hbe _).setCell (p := ⟨B + 1 + 1 + 1, _, none⟩) hbe _).setCell (p := ⟨B + 1 + 1 + 1, _, none⟩) hbe _
      · have t1 : ((kd : Int) == 0) = false := beq_eq_false_iff_ne.2 (by omega)
        have t2 : ((kd : Int) != 0) = true := bne_iff_ne.2 (by omega)
        go_upto_region 9 with fail
        go_cut [31] (fun v wx => v = .bool q ∧ wx = wo)
        case first =>
          cases q
          · obtain ⟨rfl, rfl⟩ := HQ0.out (by first | rfl | trivial)
            go_wp2_with fail
            go_meet
            exact ⟨rfl, rfl⟩
          · obtain ⟨g, cap, rfl, -, -⟩ := HQ1.out (by first | rfl | trivial)
            go_wp2_with fail
            go_meet
            exact ⟨rfl, rfl⟩
        case rest =>
        obtain ⟨rfl, hwc⟩ := hcut
        obtain rfl : wo = wc := hwc.symm
        go_upto_if 31 with fail
        go_cut [9] (fun v9 wx => LegP b G s (s.size - R.length) (cs ++ absC s.size C1) R (s.size - X.length) (uo : Int) (kd : Int) (fl : Int) n S ol.ownBlock wo v9 wx)
        case first =>
          as_aux_lemma =>
          cases q
          · obtain ⟨rfl, rfl⟩ := HQ0.out (by first | rfl | trivial)
            go_wp2_with fail
            go_meet
            exact ⟨n, xs, S, P, by omega, HOL.out, HONE.out, .inl rfl, HL.out, ⟨_, _, _, _, _, HXX.out, HSS.out⟩, fun _ h => h, (Fr.refl b wo).gro⟩
          · obtain ⟨g, cap, rfl, hgb, hgl⟩ := HQ1.out (by first | rfl | trivial)
            obtain ⟨L, hLc⟩ := HLEG1.out
            have LEGR := Lib.hid (show wo.ownsRow (b + 1) 125 3 (.slice (some ⟨g, 0, none⟩) nL cap) nL (L.flatMap cmC) by rw [← hLc]; exact HLEG.out)
            have LLEN := Lib.hid (cm_len LEGR.out)
            have HNR := Lib.hid (show ∀ i, S i → ol.ownBlock ≠ some i from fun i hi => (HAP.out i hi).2)
            have HGR := Lib.hid (show ol.ownBlock ≠ some g from HNR.out g ((HSS.out g).2 (.inr (.inr (.inr rfl)))))
            have HROW := Lib.hid (show ∀ i, ol.ownBlock = some i → b < i from fun i hi => by have := (own_base HOL.out hi).1; omega)
            obtain ⟨i2, hi2, hy0, hy1, hy2⟩ := parts_of infoCmtC
            clear hLc
            go_wp2_with fail
            go_loopw [9, 35] (fun v9 vi wr2 => LegR b n nL ol.ownBlock wo v9 vi wr2) (fun _ vi _ => nL - (numOf (some vi)).toNat)
            case atStart => exact ⟨0, xs, rfl, Nat.zero_le _, HOL.out, HONE.out, .inl rfl, grown_refl _ _⟩
            case round =>
              obtain ⟨i, ys, rfl, hil, hown, hone2, hat2, hgr⟩ := hrel
              have OWN := Lib.hid hown
              have ONE2 := Lib.hid hone2
              have AT2 := Lib.hid hat2
              have GR := Lib.hid hgr
              clear hown hone2 hat2 hgr
              by_cases hi3 : i < nL
              · have g1 : decide ((i : Int) < (nL : Int)) = true := decide_eq_true (by omega)
                obtain ⟨⟨p1, p2, p3⟩, hp⟩ : ∃ p, L[i]? = some p := ⟨_, List.getElem?_eq_getElem (by rw [LLEN.out]; exact hi3)⟩
                have CM := Lib.hid (fun j u hj => (GR.out.cell_far ⟨g, i * 3 + j, none⟩ hgl (Ne.symm HGR.out)).trans (cm_cells LEGR.out rfl hp j u hj))
                have d0 : wr.cell? ⟨g, i * 3, none⟩ = some (.string p1) := CM.out 0 _ rfl
                have d1 : wr.cell? ⟨g, i * 3 + 1, none⟩ = some (.int .i32 p2) := CM.out 1 _ rfl
                have d2 : wr.cell? ⟨g, i * 3 + 2, none⟩ = some (.int .u32 p3) := CM.out 2 _ rfl
                have i1 : (0 : Int) ≤ (i : Int) := by omega
                have i2' : (i : Int) < (nL : Int) := by omega
                have i3 : ((i : Int)).toNat = i := by omega
                clear hp
                go_upto_region 14 with fail
                obtain ⟨C5, hC5⟩ : ∃ x, wr.heap.size = x := ⟨_, rfl⟩
                obtain ⟨w5, hw5⟩ : ∃ x, wr.alloc (.cells #[.string p1, .int .i32 p2, .int .u32 (acc.length : Int)] 125) = x := ⟨_, rfl⟩
                have HC5 := Lib.hid (show w5.heap[C5]? = some (.cells #[.string p1, .int .i32 p2, .int .u32 (acc.length : Int)] 125 (0, 0)) by rw [← hw5, ← hC5]; exact heap_alloc_new wr _)
                have OWN5 := Lib.hid (show w5.ownsRow (b + 1) 125 3 _ (n + i) ys by rw [← hw5]; exact OWN.out.alloc _)
                have hs5 : w5.heap.size = C5 + 1 := by rw [← hw5, ← hC5]; simp
                have HW5 := Lib.hid hw5
                have HCS := Lib.hid hC5
                have HS5 := Lib.hid hs5
                rw [hC5, hw5]
                have m0 : w5.cell? ⟨C5, 0, none⟩ = some (.string p1) := (by rw [Lib.cell_of_heap HC5.out]; rfl)
                have m1 : w5.cell? ⟨C5, 1, none⟩ = some (.int .i32 p2) := (by rw [Lib.cell_of_heap HC5.out]; rfl)
                have m2 : w5.cell? ⟨C5, 2, none⟩ = some (.int .u32 (acc.length : Int)) := (by rw [Lib.cell_of_heap HC5.out]; rfl)
                have hb5 : b + 1 ≤ w5.heap.size := by have h1 := GR.out.size; omega
                clear hw5 hC5 d0 d1 d2 hs5
                go_wp2_with (at_builtin; refine wpList_append_lies _ rfl _ _ 51 rfl (b + 1) 125 i2 _ 3 24 Tryz.underlying51 hi2 hy0 hy1 hy2 rfl (by decide) _ (n + i) ys rfl (OWN5.out.alloc _) ⟨w5.heap.size, 0, none⟩ 1 1 [.string p1, .int .i32 p2, .int .u32 (acc.length : Int)] rfl rfl (World.news_of_block (heap_alloc_new w5 _)) (fun u hu => by simp at hu; rcases hu with rfl | rfl | rfl <;> rfl) (by decide) (by unfold maxLen; omega) (by omega) (by simp; omega) (w5.heap.size + 1) (by simp) ?_; intro g9 cap9 w9 hown9 hgrow9 hat9 hlt9)
                have OWN9 := Lib.hid hown9
                have MORE := Lib.hid (leg_more (m := n + i + 1) (cap9 := cap9) GR.out AT2.out _ _ (by rw [← HW5.out] at hgrow9; exact hgrow9) (hat9.imp id fun e => by rw [e, HS5.out, HCS.out]))
                clear hown9 hgrow9 hat9 hlt9 m0 m1 m2
                go_roundw
                case rel => exact ⟨i + 1, _, by go_num, hi3, OWN9.out, ONE2.out.more _ _ _, MORE.out.2, MORE.out.1⟩
                case measure =>
                  show nL - ((i : Int) + 1).toNat < nL - (i : Int).toNat
                  omega
              · have g1 : decide ((i : Int) < (nL : Int)) = false := decide_eq_false (by omega)
                obtain rfl : i = nL := by omega
                have cc18 := ((HL.out.gro GR.out HROW.out).pcl 18 (by omega)).trans HXX.out.leg
                have zz18 := (HL.out.gro GR.out HROW.out).fz 18
                have LEND := Lib.hid (leg_end HL.out HXX.out HSS.out hnl HROW.out HNR.out OWN.out ONE2.out AT2.out GR.out)
                go_wp2_with fail
                go_meet
                exact LEND.out
        case rest =>
          obtain ⟨n2, xs2, S2, P2, hn2, hol2, hone2, hat2, hL2, hX2, hsub2, hg2⟩ := hcut
          have OV2 := Lib.hid (row_own HOV.out (fun k hk => hg2.block k (own_base HOV.out hk).2 (by have := (own_base HOV.out hk).1; omega) (HAP2.out k hk)) : wc.ownsRow (b + 1) 66 5 (.slice ova acc.length ovc) acc.length (acc.flatMap tqC))
          have HH2 := Lib.hid ((hg2.block (B + 1 + 1 + 1) (Array.getElem?_eq_some_iff.1 HH.out).1 (by omega) (fun e => by have := (own_base HOL.out e).1; omega)).trans HH.out)
          have OL2 := Lib.hid hol2
          have ONE2 := Lib.hid hone2
          have L2 := Lib.hid hL2
          have X2 := Lib.hid hX2
          have SUB2 := Lib.hid hsub2
          have AT2 := Lib.hid hat2
          have B2 := Lib.hid (show Below G.gk w wc from HB.out.trans ((hg2.fx (S := fun i => G.gk ≤ i) (by have := GKW.out; omega) (fun i hi => by have := (own_base HOL.out hi).1; have := GKW.out; omega)).below (fun i hi => hi) (by have := HB.out.size; have := GKW.out; omega)))
          have G2 := Lib.hid hg2.size
          obtain ⟨c36, c37⟩ := hL2.c3637 hL2.at
          have c38 := hL2.c38'
          obtain ⟨c39', c40⟩ := hL2.c3940
          obtain ⟨hu, hf⟩ := HFU.out
          have hb2 := hL2.lt
          clear hol2 hone2 hL2 hX2 hsub2 hat2 hg2 c18 z18 c39
          have hnlen : acc.length ≤ 1048576 := by omega
          have hRX : R.length < X.length := by have := nextB_step HNX.out hk0; exact this
          go_wp2_with (at_builtin; refine wpList_append_lies _ rfl _ _ 49 rfl (b + 1) 66 i0 _ 5 12 Tryz.underlying49 hi hz0 hz1 hz2 rfl (by decide) _ acc.length (acc.flatMap tqC) rfl (OV2.out.alloc _) ⟨wc.heap.size, 0, none⟩ 1 1 (tqC ⟨kd, uo, fl, s.size - X.length, s.size - R.length⟩) rfl rfl (World.news_of_block (heap_alloc_new wc _)) (fun u hu => by simp [tqC] at hu; rcases hu with rfl | rfl | rfl | rfl | rfl <;> rfl) (by decide) (by unfold maxLen; omega) (by omega) (by simp; omega) (wc.heap.size + 1) (by simp) ?_; intro g4 cap4 w4 hown4 hgrow4 hat4 hlt4)
          have HRW := Lib.hid (show ∀ i, (Value.slice ova acc.length ovc).ownBlock = some i → b < i from fun i hi => by have := (own_base OV2.out hi).1; omega)
          have SA := Lib.hid (show ∀ i, S2 i → (Value.slice ova acc.length ovc).ownBlock ≠ some i ∧ ol.ownBlock ≠ some i from fun i hi => HAP.out i (SUB2.out i hi))
          have S2L := Lib.hid (X2.out.lt hb2)
          have L4 := Lib.hid ((L2.out.fr ((Below.refl _ _).alloc (Nat.le_refl _) _)).gro hgrow4 HRW.out)
          have X4 := Lib.hid ((X2.out.fr (k' := s.size - R.length) (Fr.of ((Below.refl _ _).alloc (Nat.le_refl _) _)) (Nat.le_refl _)).grow hgrow4 HRW.out (fun i hi => (SA.out i hi).1))
          have U9 := Lib.hid (show ∀ i, u9.ownBlock = some i → (Value.slice ova acc.length ovc).ownBlock ≠ some i ∧ i < wc.heap.size ∧ ¬ S2 i from fun i hi => by
            refine ⟨fun e => ?_, (own_base OL2.out hi).2, fun e => ?_⟩
            · rcases AT2.out with h | ⟨g, h, hg⟩
              · exact HAP2.out i e (h.symm.trans hi)
              · rw [hi] at h
                injection h with h
                have := (own_base HOV.out e).2
                omega
            · rcases AT2.out with h | ⟨g, h, hg⟩
              · exact (SA.out i e).2 (h.symm.trans hi)
              · rw [hi] at h
                injection h with h
                have := (LxS.lt ⟨_, _, _, _, _, HXX.out, HSS.out⟩ hlr) i (SUB2.out i e)
                omega)
          have OL4 := Lib.hid (row_own OL2.out (fun k hk => (hgrow4.block k (by have := (U9.out k hk).2.1; simp; omega) (fun e => (U9.out k hk).1 e.symm)).trans (Below.heap_alloc _ _ _ (U9.out k hk).2.1)))
          have B4 := Lib.hid ((B2.out.alloc (by have := B2.out.size; have := GKW.out; omega) _).grown hgrow4 (by have := B2.out.size; have := GKW.out; simp; omega) (fun x hx => by have := HRW.out x hx; have := GKW.out; omega))
          have H4 := Lib.hid ((hgrow4.block (B + 1 + 1 + 1) (by have := (Array.getElem?_eq_some_iff.1 HH2.out).1; simp; omega) (fun e => by have := HRW.out _ e.symm; omega)).trans ((Below.heap_alloc _ _ _ (Array.getElem?_eq_some_iff.1 HH2.out).1).trans HH2.out))
          have OWN4 := Lib.hid hown4
          have HAT4 := Lib.hid hat4
          have NX4 := Lib.hid (nextG b G P2 s R (s.size - X.length) (s.size - R.length) (uo : Int) (kd : Int) (fl : Int) (cs ++ absC s.size C1) S2 w4 L4.out X4.out L4.out.at)
          have W4S := Lib.hid hgrow4.size
          clear hown4 hgrow4 hat4 hlt4 t1 t2 c36 c37 c38 c39' c40
          refine (NX4.out).mono ?_
          rintro e w5 ⟨rfl, hN5⟩
          have RUN2 := Lib.hid (show ∀ ts cs', RunB s ts cs' R → RunB s ((acc ++ [⟨kd, uo, fl, s.size - X.length, s.size - R.length⟩]) ++ ts) ((cs ++ absC s.size C1) ++ cs') s.data.toList from by
            have hm := run_more HRUN.out hu hf (by rw [HNX.out]; exact hk0) (by rw [HNX.out]; exact HA.out) (by rw [HNX.out]; exact L2.out.at)
            rw [HNX.out] at hm
            exact hm)
          have XLE := Lib.hid (show X.length ≤ r.length by have := (nextB_in s.size r (by omega)).2.1; rw [HNX.out] at this; exact this)
          have MEAS := Lib.hid (show leftQ b s.size w5 < leftQ b s.size wo by
            obtain ⟨uo5, fl5, -, -, hA5, P5, S5, hL5, -⟩ := hN5
            rw [hL5.leftq, HL.out.leftq]
            have h1 := (nextB_in s.size R (by have := L2.out.at.size; omega)).2.1
            have h2 := HA.out.size
            omega)
          have REL := Lib.hid (show TkG b G s w (B + 1 + 1 + 1) (.slice (some ⟨g4, 0, none⟩) (acc.length + 1) cap4) u9 w5 from tk_next (acc := acc ++ [⟨kd, uo, fl, s.size - X.length, s.size - R.length⟩]) (r := R) (cs := cs ++ absC s.size C1) (n := n2) (xs := xs2) (by have := B4.out.size; have := GKW.out; omega) X4.out hN5 RUN2.out (by rw [List.length_append, tqC_append]; exact OWN4.out) OL4.out ONE2.out (by rw [List.length_append, List.length_singleton]; omega) (by rw [List.length_append, List.length_singleton]; have := XLE.out; omega)
            (fun i hi => ⟨fun e => by
              injection e with e
              have e3 : g4 = i := e
              clear e
              subst e3
              rcases HAT4.out with h | h
              · exact (SA.out _ hi).1 h
              · have := S2L.out _ hi
                omega, fun e => (U9.out i e).2.2 hi⟩)
            (fun i e e2 => by
              injection e with e
              have e3 : g4 = i := e
              clear e
              subst e3
              rcases HAT4.out with h | h
              · exact (U9.out _ e2).1 h
              · have := (U9.out _ e2).2.1
                omega) B4.out HHG.out HHB.out H4.out)
          clear hN5
          go_wp2_with fail
          go_roundw
          case rel => exact REL.out
          case measure => exact MEAS.out
end Go.Proofs.YtmgkccnfhkcncaaGreatDoor
