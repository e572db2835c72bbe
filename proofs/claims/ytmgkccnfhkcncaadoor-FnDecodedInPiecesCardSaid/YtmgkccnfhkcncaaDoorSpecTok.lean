/-
  The reference's lexer: a sign that is a token by itself; a text in quotes.
-/
import Derived.Test.YtmgkccnfhkcncaaDoorMathG
import Derived.Test.YtmgkccnfhkcncaaDoorSpecNm
namespace Go.Proofs.YtmgkccnfhkcncaaDoor
open Go.RowKit

/-- A token's value; a, e: its place. -/
def tkV (k : Tk) (a e : Nat) : Value := .agg #[.int .i64 (k.kind : Int), .int .i64 (a : Int), .int .i64 (e : Int), .int .i64 (k.unit : Int), .bool k.id, .string (strOf k.text)]
theorem SR.alloc {b : Nat} {s : ByteArray} {l : List Nat} {cv : Value} {o : Bool} {w : World} (h : SR b s l cv o w) (x : Obj) : SR b s l cv o (w.alloc x) := h.below ((Below.refl _ _).alloc (Nat.le_refl _) _)
theorem SR.lt {b : Nat} {s : ByteArray} {l : List Nat} {cv : Value} {o : Bool} {w : World} (h : SR b s l cv o w) : b < w.heap.size := by
  obtain ⟨k, _, hL⟩ := h
  exact hL.lt
theorem SR.far {b : Nat} {s : ByteArray} {l : List Nat} {cv : Value} {o : Bool} {w : World} (h : SR b s l cv o w) {p : Addr} (hp : b ≠ p.block) (v : Value) : SR b s l cv o (w.setCell p v) := by
  obtain ⟨k, hA, hL⟩ := h
  refine ⟨k, hA, ?_⟩
  unfold SL at *
  rw [Below.heap_setCell w p v b hp, hL]

/-- Block R is a token that was made as zero. -/
def ZB (R : Nat) (w : World) : Prop := w.heap[R]? = some (.cells #[.int .i64 0, .int .i64 0, .int .i64 0, .int .i64 0, .bool false, .string ⟨#[]⟩] 29 (0, 0))
theorem ZB.new (w : World) : ZB w.heap.size (w.alloc (.cells #[.int .i64 0, .int .i64 0, .int .i64 0, .int .i64 0, .bool false, .string ⟨#[]⟩] 29)) := heap_alloc_new _ _
theorem ZB.lt {R : Nat} {w : World} (h : ZB R w) : R < w.heap.size := by
  rcases Nat.lt_or_ge R w.heap.size with h' | h'
  · exact h'
  · unfold ZB at h; simp [Array.getElem?_eq_none h'] at h
theorem ZB.fr {b R : Nat} {w w' : World} (h : ZB R w) (f : Fr b w w') (hb : R ≠ b) : ZB R w' := (f.block R h.lt hb).trans h
theorem ZB.c {R : Nat} {w : World} (h : ZB R w) : w.cell? ⟨R, 0, none⟩ = some (.int .i64 0) ∧ w.cell? ⟨R, 1, none⟩ = some (.int .i64 0) ∧ w.cell? ⟨R, 2, none⟩ = some (.int .i64 0) ∧ w.cell? ⟨R, 3, none⟩ = some (.int .i64 0) ∧ w.cell? ⟨R, 4, none⟩ = some (.bool false) ∧ w.cell? ⟨R, 5, none⟩ = some (.string ⟨#[]⟩) := by
  refine ⟨?_, ?_, ?_, ?_, ?_, ?_⟩ <;> (rw [Lib.cell_of_heap h]; rfl)
theorem ZB.z {R : Nat} {w : World} (h : ZB R w) : w.frozen? ⟨R, 0, none⟩ = false ∧ w.frozen? ⟨R, 1, none⟩ = false ∧ w.frozen? ⟨R, 2, none⟩ = false ∧ w.frozen? ⟨R, 3, none⟩ = false ∧ w.frozen? ⟨R, 4, none⟩ = false ∧ w.frozen? ⟨R, 5, none⟩ = false := by
  refine ⟨?_, ?_, ?_, ?_, ?_, ?_⟩ <;> exact Lib.frozen_of_heap h _

/-- The six stores of a token. -/
def put6 (w : World) (R : Nat) (v0 v1 v2 v3 v4 v5 : Value) : World := (((((w.setCell ⟨R, 0, none⟩ v0).setCell ⟨R, 1, none⟩ v1).setCell ⟨R, 2, none⟩ v2).setCell ⟨R, 3, none⟩ v3).setCell ⟨R, 4, none⟩ v4).setCell ⟨R, 5, none⟩ v5
theorem put6_heap {R : Nat} {w : World} (h : ZB R w) (v0 v1 v2 v3 v4 v5 : Value) : (put6 w R v0 v1 v2 v3 v4 v5).heap[R]? = some (.cells #[v0, v1, v2, v3, v4, v5] 29 (0, 0)) := by
  unfold ZB at h
  simp [put6, World.setCell, Array.getElem?_modify, h]
theorem SR.put6 {b : Nat} {s : ByteArray} {l : List Nat} {cv : Value} {o : Bool} {w : World} (h : SR b s l cv o w) {R : Nat} (hR : b ≠ R) (v0 v1 v2 v3 v4 v5 : Value) : SR b s l cv o (put6 w R v0 v1 v2 v3 v4 v5) :=
  (((((h.far (p := ⟨R, 0, none⟩) hR v0).far (p := ⟨R, 1, none⟩) hR v1).far (p := ⟨R, 2, none⟩) hR v2).far (p := ⟨R, 3, none⟩) hR v3).far (p := ⟨R, 4, none⟩) hR v4).far (p := ⟨R, 5, none⟩) hR v5
theorem Fr.put6 {b : Nat} {w w' : World} (h : Fr b w w') {R : Nat} (hR : w.heap.size ≤ R) (v0 v1 v2 v3 v4 v5 : Value) : Fr b w (put6 w' R v0 v1 v2 v3 v4 v5) :=
  (((((h.far (p := ⟨R, 0, none⟩) hR v0).far (p := ⟨R, 1, none⟩) hR v1).far (p := ⟨R, 2, none⟩) hR v2).far (p := ⟨R, 3, none⟩) hR v3).far (p := ⟨R, 4, none⟩) hR v4).far (p := ⟨R, 5, none⟩) hR v5
theorem infoTok : (Tryd.prog.info? 29).map (·.size) = some 6 := by kernel_rfl
/-- The end of a function that hands a token back. -/
theorem tok_end {fn : Func} {post : Ending → World → Prop} {a : Act} {w : World} {R : Nat} {v0 v1 v2 v3 v4 v5 : Value} (hr : fn.results = #[.cell 2 29]) (hp : a.tmps.getD 2 undef = .pointer (some ⟨R, 0, none⟩)) (hd : a.defers = []) (h : ZB R w)
    (hpost : post (.returned (.agg #[v0, v1, v2, v3, v4, v5])) (put6 w R v0 v1 v2 v3 v4 v5)) : bodyPost Tryd.prog fn post .ret a (put6 w R v0 v1 v2 v3 v4 v5) :=
  bodyPost_ret (results_cell_row (P := Tryd.prog) hr a.tmps _ R _ _ _ _ hp (put6_heap h v0 v1 v2 v3 v4 v5) Tryd.underlying29 rfl infoTok) hd hpost
theorem tk_ret {k : Tk} {a e : Nat} {x y z u : Int} {i : Bool} {t : ByteArray} (h0 : x = (k.kind : Int)) (h1 : y = (a : Int)) (h2 : z = (e : Int)) (h3 : u = (k.unit : Int)) (h4 : i = k.id) (h5 : t = strOf k.text) :
    Ending.returned (.agg #[.int .i64 x, .int .i64 y, .int .i64 z, .int .i64 u, .bool i, .string t]) = .returned (tkV k a e) := by
  subst h0; subst h1; subst h2; subst h3; subst h4; subst h5; rfl
theorem beqc (c n : Nat) : (((c : Int) == (n : Int)) = true) ↔ c = n := by rw [beq_iff_eq]; omega
theorem cast_ite {p : Prop} [Decidable p] {a b : Nat} {y x : Int} (h : ((b : Nat) : Int) = x) (ha : ((a : Nat) : Int) = y) : ((if p then a else b : Nat) : Int) = if p then y else x := by
  by_cases hp : p
  · rw [if_pos hp, if_pos hp]; exact ha
  · rw [if_neg hp, if_neg hp]; exact h
theorem signK_b (c : Nat) : ((signK c : Nat) : Int) = if ((c : Int) == 123) = true then 31 else if ((c : Int) == 125) = true then 6 else if ((c : Int) == 91) = true then 32 else if ((c : Int) == 93) = true then 7 else if ((c : Int) == 40) = true then 33 else if ((c : Int) == 41) = true then 8 else if ((c : Int) == 58) = true then 9 else if ((c : Int) == 59) = true then 35 else if ((c : Int) == 44) = true then 10 else if ((c : Int) == 38) = true then 12 else if ((c : Int) == 42) = true then 13 else if ((c : Int) == 124) = true then 14 else if ((c : Int) == 94) = true then 15 else if ((c : Int) == 36) = true then 16 else if ((c : Int) == 46) = true then 17 else if ((c : Int) == 61) = true then 18 else if ((c : Int) == 33) = true then 19 else if ((c : Int) == 62) = true then 20 else if ((c : Int) == 60) = true then 21 else if ((c : Int) == 45) = true then 22 else if ((c : Int) == 43) = true then 23 else if ((c : Int) == 47) = true then 24 else if ((c : Int) == 126) = true then 25 else 11 := by
  have h := beqc c
  have e123 : (((c : Int) == 123) = true) = (c = 123) := propext (h 123)
  have e125 : (((c : Int) == 125) = true) = (c = 125) := propext (h 125)
  have e91 : (((c : Int) == 91) = true) = (c = 91) := propext (h 91)
  have e93 : (((c : Int) == 93) = true) = (c = 93) := propext (h 93)
  have e40 : (((c : Int) == 40) = true) = (c = 40) := propext (h 40)
  have e41 : (((c : Int) == 41) = true) = (c = 41) := propext (h 41)
  have e58 : (((c : Int) == 58) = true) = (c = 58) := propext (h 58)
  have e59 : (((c : Int) == 59) = true) = (c = 59) := propext (h 59)
  have e44 : (((c : Int) == 44) = true) = (c = 44) := propext (h 44)
  have e38 : (((c : Int) == 38) = true) = (c = 38) := propext (h 38)
  have e42 : (((c : Int) == 42) = true) = (c = 42) := propext (h 42)
  have e124 : (((c : Int) == 124) = true) = (c = 124) := propext (h 124)
  have e94 : (((c : Int) == 94) = true) = (c = 94) := propext (h 94)
  have e36 : (((c : Int) == 36) = true) = (c = 36) := propext (h 36)
  have e46 : (((c : Int) == 46) = true) = (c = 46) := propext (h 46)
  have e61 : (((c : Int) == 61) = true) = (c = 61) := propext (h 61)
  have e33 : (((c : Int) == 33) = true) = (c = 33) := propext (h 33)
  have e62 : (((c : Int) == 62) = true) = (c = 62) := propext (h 62)
  have e60 : (((c : Int) == 60) = true) = (c = 60) := propext (h 60)
  have e45 : (((c : Int) == 45) = true) = (c = 45) := propext (h 45)
  have e43 : (((c : Int) == 43) = true) = (c = 43) := propext (h 43)
  have e47 : (((c : Int) == 47) = true) = (c = 47) := propext (h 47)
  have e126 : (((c : Int) == 126) = true) = (c = 126) := propext (h 126)
  simp only [e123, e125, e91, e93, e40, e41, e58, e59, e44, e38, e42, e124, e94, e36, e46, e61, e33, e62, e60, e45, e43, e47, e126, signK]
  clear h e123 e125 e91 e93 e40 e41 e58 e59 e44 e38 e42 e124 e94 e36 e46 e61 e33 e62 e60 e45 e43 e47 e126
  repeat refine cast_ite ?_ rfl
  rfl

set_option maxHeartbeats 4000000 in
set_option maxRecDepth 100000 in
theorem signL (b : Nat) (s : ByteArray) (c : Nat) (t : List Nat) (cv : Value) (o : Bool) (w : World) (h : SR b s (c :: t) cv o w) :
    Calls Tryd.prog 63 #[.pointer (some ⟨b, 0, none⟩)] w fun e w' => e = .returned (tkV ⟨signK c, 0, false, []⟩ 0 0) ∧ SR b s t cv o w' ∧ Fr b w w' := by
  have hlt := h.lt
  have K := Lib.hid (fun w h => take_cons b s c t cv o w h)
  go_enter Tryd.func63, Tryd.ntmps63
  go_wp2_with fail
  refine (K.out _ (h.alloc _)).mono ?_
  rintro e w1 ⟨rfl, h1, f1⟩
  have zb := (ZB.new w).fr f1 (by omega)
  obtain ⟨c0, c1, c2, c3, c4, c5⟩ := zb.c
  obtain ⟨z0, z1, z2, z3, z4, z5⟩ := zb.z
  have ZZ := Lib.hid zb
  have F := Lib.hid f1.made
  clear zb f1
  go_wp2
  all_goals
    refine tok_end (R := w.heap.size) rfl rfl rfl ZZ.out ?_
    refine ⟨tk_ret ?_ rfl rfl rfl rfl rfl, h1.put6 (by omega) _ _ _ _ _ _, F.out.put6 (Nat.le_refl _) _ _ _ _ _ _⟩
    rw [signK_b]
    simp only [*, Bool.false_eq_true, ↓reduceIte]
end Go.Proofs.YtmgkccnfhkcncaaDoor
