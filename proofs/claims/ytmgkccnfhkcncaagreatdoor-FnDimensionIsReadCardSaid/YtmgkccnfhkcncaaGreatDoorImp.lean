/-
  impl.Tokens: the tokens of a text that the lexer tells nothing about. laws.merged, where no token is whitespace: a copy. laws.one, where the text is one token.
-/
import Derived.Test.YtmgkccnfhkcncaaGreatDoorTok
import Derived.Test.YtmgkccnfhkcncaaGreatDoorDecU
import Derived.Deep.AppendLies
import Derived.Outline
namespace Go.Proofs.YtmgkccnfhkcncaaGreatDoor
open Go.RowKit
attribute [local go_sem ↓] Go.wp_at_zero Go.wp_at_succ

/-- A token as impl hands it out. -/
def tiC (s : ByteArray) (t : TkB) : List Value := [.int .i64 (t.kd : Int), .int .i64 (t.b : Int), .int .i64 (t.e : Int), .int .i64 (t.uo : Int), .bool (t.fl == 1), .string ⟨(decText t.kd ((s.extract t.b t.e).data.toList)).toArray⟩]
theorem tiC_append (s : ByteArray) (a : List TkB) (t : TkB) : (a ++ [t]).flatMap (tiC s) = a.flatMap (tiC s) ++ tiC s t := by simp
/-- A token that can be decoded. -/
def TkOk (s : ByteArray) (t : TkB) : Prop := t.kd ≤ 255 ∧ t.uo ≤ 65535 ∧ t.b ≤ t.e ∧ t.e ≤ s.size ∧ DecOk t.kd ((s.extract t.b t.e).data.toList) ∧ (t.fl = 0 ∨ t.fl = 1)
theorem decI (s : ByteArray) (t : TkB) (w : World) (hT : Lib.Utf8Tabs 0 1 w) (hs : s.size ≤ 1073741824) (h : TkOk s t) :
    Calls Tryz.prog 36 #[.agg #[.int .i32 (t.b : Int), .int .i32 ((t.e : Int) - t.b), .int .u16 (t.uo : Int), .int .u8 (t.kd : Int), .int .u8 (t.fl : Int)], .string s] w fun x w' => x = .returned (.string ⟨(decText t.kd ((s.extract t.b t.e).data.toList)).toArray⟩) ∧ Below w.heap.size w w' := by
  obtain ⟨h1, h2, h3, h4, h5, h6⟩ := h
  by_cases hk : t.kd = 37
  · rw [hk] at h5 ⊢
    exact decU s t.b t.e t.uo t.fl w hT h3 h4 hs h5
  · exact decT s t.b t.e t.kd t.uo t.fl w hT h3 h4 hs hk h5
theorem infoIT : (Tryz.prog.info? 36).map (fun i => (i.zero, i.size, i.bytes)) = some (some (.agg #[.int .i64 0, .int .i64 0, .int .i64 0, .int .i64 0, .bool false, .string ⟨#[]⟩]), 6, 56) := by kernel_rfl
/-- The loop of Tokens: i tokens are done. -/
def IRel (s : ByteArray) (toks : List TkB) (w1 : World) (ov iv : Value) (w : World) : Prop :=
  ∃ i : Nat, iv = .int .i64 (i : Int) ∧ i ≤ toks.length ∧ w.ownsRow w1.heap.size 36 6 ov i ((toks.take i).flatMap (tiC s)) ∧ Below w1.heap.size w1 w
theorem newC {w2 w3 : World} {Z : Array Value} {T : TypeId} (h : Below (w2.alloc (.cells Z T)).drew.heap.size (w2.alloc (.cells Z T)).drew w3) : w3.heap[w2.heap.size]? = some (.cells Z T (0, 0)) :=
  (h.block w2.heap.size (by show w2.heap.size < (w2.alloc (.cells Z T)).heap.size; simp)).trans (heap_alloc_new w2 _)
theorem wrap_i64n {n : Nat} (h : n ≤ 1073741824) : IntKind.i64.wrap (n : Int) = (n : Int) := IntWalk.i64_in _ (by omega)
/-- The cells of the i-th of a row's elements. -/
theorem tk_cells {w : World} {base : Nat} {v : Value} {n : Nat} {toks : List TkB} {e : TypeId} (h : w.ownsRow base e 5 v n (toks.flatMap tkC)) {g : Nat} (hg : v.ownBlock = some g) {i : Nat} {t : TkB} (ht : toks[i]? = some t) (j : Nat) (u : Value) (hj : (tkC t)[j]? = some u) :
    w.cell? ⟨g, i * 5 + j, none⟩ = some u := by
  have hx : (toks.flatMap tkC)[i * 5 + j]? = some u := by
    clear h hg
    induction toks generalizing i with
    | nil => simp at ht
    | cons a r ih =>
      rw [List.flatMap_cons]
      cases i with
      | zero =>
        simp only [List.getElem?_cons_zero, Option.some.injEq] at ht
        subst ht
        have : j < (tkC a).length := (List.getElem?_eq_some_iff.1 hj).1
        rw [Nat.zero_mul, Nat.zero_add, List.getElem?_append_left this]
        exact hj
      | succ i =>
        simp only [List.getElem?_cons_succ] at ht
        have h5 : (tkC a).length = 5 := rfl
        rw [List.getElem?_append_right (by rw [h5]; omega), h5, show (i + 1) * 5 + j - 5 = i * 5 + j by omega]
        exact ih ht
  have h2 := h.cells hg _ _ hx
  rwa [show ((⟨g, 0, none⟩ : Addr).add (i * 5 + j)) = ⟨g, i * 5 + j, none⟩ by unfold Addr.add; split <;> simp_all] at h2
set_option maxHeartbeats 8000000 in
set_option maxRecDepth 1000000 in
theorem tokensI (s : ByteArray) (toks : List TkB) (w : World) (hT : Lib.Utf8Tabs 0 1 w) (hs : s.size ≤ 1073741824) (hb : hdB s.data.toList ≠ 65279) (ht : TokB s.size toks s.data.toList) (hok : ∀ t ∈ toks, TkOk s t) :
    Calls Tryz.prog 17 #[.string s] w fun e w' => ∃ tv, e = .returned tv ∧ w'.ownsRow w.heap.size 36 6 tv toks.length (toks.flatMap (tiC s)) ∧ Below w.heap.size w w' := by
  have T := Lib.hid hT
  have TI := Lib.hid (fun w hT => tokI s toks w hT hs hb ht)
  have hlen := TokB_len _ _ _ ht
  rw [show s.data.toList.length = s.size by simp] at hlen
  have OK := Lib.hid hok
  clear hT hb ht hok
  go_enter Tryz.func17, Tryz.ntmps17
  go_wp2_with fail
  refine (TI.out _ T.out).mono ?_
  rintro e w1 ⟨tv, v, rfl, hown, hb1⟩
  obtain ⟨oa, oc, rfl⟩ := rowForm hown
  have OWN := Lib.hid hown
  have B1 := Lib.hid hb1
  clear hown hb1
  have FLD : ∀ wx : World, (Instr.field 59 (.agg #[.slice oa toks.length oc, .slice none 0 0, .slice none 0 0, .string ⟨#[]⟩, .int .i32 0, .int .i32 0, .int .i32 v]) 0).run Tryz.prog wx = .ok (.slice oa toks.length oc) wx := fun _ => by kernel_rfl
  obtain ⟨i0, hi, hz0, hz1, hz2⟩ := parts_of infoIT
  have START := Lib.hid (show IRel s toks w1 (.slice none 0 0) (.int .i64 ((0 : Nat) : Int)) w1 from ⟨0, rfl, Nat.zero_le _, World.ownsRow_nil _ _ _ _, Below.refl _ _⟩)
  go_wp2_with fail
  go_loopw [3, 11] (fun ov iv wr => IRel s toks w1 ov iv wr) (fun _ iv _ => toks.length - (numOf (some iv)).toNat)
  case atStart => exact START.out
  case round =>
    obtain ⟨i, rfl, hil, hov, hB⟩ := hrel
    clear START
    have HOV := Lib.hid hov
    have HB := Lib.hid hB
    clear hov hB
    by_cases hi2 : i < toks.length
    · have g1 : decide ((i : Int) < (toks.length : Int)) = true := decide_eq_true (by omega)
      obtain ⟨g, rfl, hgb, hgl⟩ : ∃ g, oa = some ⟨g, 0, none⟩ ∧ w.heap.size ≤ g ∧ g < w1.heap.size := by
        rcases OWN.out.2 with ⟨h1, h2⟩ | ⟨g, cap, cur, h1, h2, h3, -⟩
        · omega
        · injection h1 with h1 _ _
          exact ⟨g, h1, h2, (Array.getElem?_eq_some_iff.1 h3).1⟩
      obtain ⟨t, htk⟩ : ∃ t, toks[i]? = some t := ⟨_, List.getElem?_eq_getElem hi2⟩
      have TK := Lib.hid htk
      have TOK := Lib.hid (OK.out t (List.mem_of_getElem? htk))
      have C := Lib.hid (fun j u hj => (HB.out.cell (p := ⟨g, i * 5 + j, none⟩) hgl).trans (tk_cells OWN.out rfl htk j u hj))
      have i1 : (0 : Int) ≤ (i : Int) := by omega
      have i2 : (i : Int) < (toks.length : Int) := by omega
      have i3 : ((i : Int)).toNat = i := by omega
      have d0 : wr.cell? ⟨g, i * 5, none⟩ = some (.int .i32 (t.b : Int)) := C.out 0 _ rfl
      have d1 : wr.cell? ⟨g, i * 5 + 1, none⟩ = some (.int .i32 ((t.e : Int) - t.b)) := C.out 1 _ rfl
      have d2 : wr.cell? ⟨g, i * 5 + 2, none⟩ = some (.int .u16 (t.uo : Int)) := C.out 2 _ rfl
      have d3 : wr.cell? ⟨g, i * 5 + 3, none⟩ = some (.int .u8 (t.kd : Int)) := C.out 3 _ rfl
      have d4 : wr.cell? ⟨g, i * 5 + 4, none⟩ = some (.int .u8 (t.fl : Int)) := C.out 4 _ rfl
      clear htk
      go_upto_region 5 with fail
      obtain ⟨C5, hC5⟩ : ∃ x, wr.heap.size = x := ⟨_, rfl⟩
      obtain ⟨w2, hw2⟩ : ∃ x, wr.alloc (.cells #[.int .i32 (t.b : Int), .int .i32 ((t.e : Int) - t.b), .int .u16 (t.uo : Int), .int .u8 (t.kd : Int), .int .u8 (t.fl : Int)] 66) = x := ⟨_, rfl⟩
      have K5 := Lib.hid (show w2.heap[C5]? = some (.cells #[.int .i32 (t.b : Int), .int .i32 ((t.e : Int) - t.b), .int .u16 (t.uo : Int), .int .u8 (t.kd : Int), .int .u8 (t.fl : Int)] 66 (0, 0)) by rw [← hw2, ← hC5]; exact heap_alloc_new wr _)
      have B2 := Lib.hid (show Below w1.heap.size w1 w2 by rw [← hw2]; exact HB.out.alloc HB.out.size _)
      have OV2 := Lib.hid (show w2.ownsRow w1.heap.size 36 6 _ i ((toks.take i).flatMap (tiC s)) by rw [← hw2]; exact HOV.out.alloc _)
      have hC5b := Lib.hid (show w1.heap.size ≤ C5 by rw [← hC5]; exact HB.out.size)
      rw [hC5, hw2]
      have h5l : C5 < w2.heap.size := (Array.getElem?_eq_some_iff.1 K5.out).1
      have q0 : w2.cell? ⟨C5, 0, none⟩ = some (.int .i32 (t.b : Int)) := by rw [Lib.cell_of_heap K5.out]; rfl
      have q1 : w2.cell? ⟨C5, 1, none⟩ = some (.int .i32 ((t.e : Int) - t.b)) := by rw [Lib.cell_of_heap K5.out]; rfl
      have q2 : w2.cell? ⟨C5, 2, none⟩ = some (.int .u16 (t.uo : Int)) := by rw [Lib.cell_of_heap K5.out]; rfl
      have q3 : w2.cell? ⟨C5, 3, none⟩ = some (.int .u8 (t.kd : Int)) := by rw [Lib.cell_of_heap K5.out]; rfl
      have q4 : w2.cell? ⟨C5, 4, none⟩ = some (.int .u8 (t.fl : Int)) := by rw [Lib.cell_of_heap K5.out]; rfl
      clear hw2 hC5 d0 d1 d2 d3 d4
      obtain ⟨hkd, huo, hbe, hes, hdec, hfl⟩ := TOK.out
      have E := Lib.hid (fun w => rangeEndI t.b t.e w hbe (by omega))
      go_cut [6] (fun v wx => ∃ r, v = .pointer (some ⟨r, 0, none⟩) ∧ w2.heap.size ≤ r ∧ wx.heap[r]? = some (.cells #[.int .i64 (t.kd : Int), .int .i64 (t.b : Int), .int .i64 (t.e : Int), .int .i64 (t.uo : Int), .bool (t.fl == 1), .string ⟨#[]⟩] 36 (0, 0)) ∧ Below w2.heap.size w2 wx)
      case first =>
        have b0 : (0 : Int) ≤ (t.b : Int) := by omega
        have b1 : (t.b : Int) ≤ 1073741824 := by omega
        have b2 : (0 : Int) ≤ (t.e : Int) := by omega
        have b3 : (t.e : Int) ≤ 1073741824 := by omega
        have hne1 : ¬ (w2.heap.size = C5) := by omega
        have hne2 : ¬ (C5 = w2.heap.size) := by omega
        have wk : IntKind.i64.wrap (t.kd : Int) = (t.kd : Int) := wrap_i64n (by omega)
        have wb : IntKind.i64.wrap (t.b : Int) = (t.b : Int) := wrap_i64n (by omega)
        have we : IntKind.i64.wrap (t.e : Int) = (t.e : Int) := wrap_i64n (by omega)
        have wu : IntKind.i64.wrap (t.uo : Int) = (t.uo : Int) := wrap_i64n (by omega)
        rcases hfl with hf | hf
        · have HF := Lib.hid (show (t.fl == 1) = false by rw [hf]; rfl)
          have hbit : bits BinOp.and IntKind.u8 ((0 : Nat) : Int) 1 = 0 := by decide
          have hbit2 : bits BinOp.and IntKind.u8 0 1 = 0 := by decide
          rw [hf] at q4 ⊢
          go_region_held3 (fun w' => w'.cell? ⟨C5, 0, none⟩ = some (.int .i32 (t.b : Int)) ∧ w'.cell? ⟨C5, 1, none⟩ = some (.int .i32 ((t.e : Int) - t.b)) ∧ w'.cell? ⟨C5, 2, none⟩ = some (.int .u16 (t.uo : Int)) ∧ w'.cell? ⟨C5, 3, none⟩ = some (.int .u8 (t.kd : Int)) ∧ w'.cell? ⟨C5, 4, none⟩ = some (.int .u8 ((0 : Nat) : Int))) (go_keep)
            ((go_at_call 35; refine (E.out _).mono ?_; rintro x w3 ⟨rfl, hb3⟩; have j0 := (hb3.cell (p := ⟨C5, 0, none⟩) (by first | exact h5l | (simp; omega))).trans (by first | exact q0 | exact (Below.cell ((Below.refl w2.heap.size w2).alloc (Nat.le_refl _) _) h5l).trans q0); have j1 := (hb3.cell (p := ⟨C5, 1, none⟩) (by first | exact h5l | (simp; omega))).trans (by first | exact q1 | exact (Below.cell ((Below.refl w2.heap.size w2).alloc (Nat.le_refl _) _) h5l).trans q1); have j2 := (hb3.cell (p := ⟨C5, 2, none⟩) (by first | exact h5l | (simp; omega))).trans (by first | exact q2 | exact (Below.cell ((Below.refl w2.heap.size w2).alloc (Nat.le_refl _) _) h5l).trans q2); have j3 := (hb3.cell (p := ⟨C5, 3, none⟩) (by first | exact h5l | (simp; omega))).trans (by first | exact q3 | exact (Below.cell ((Below.refl w2.heap.size w2).alloc (Nat.le_refl _) _) h5l).trans q3); have j4 := (hb3.cell (p := ⟨C5, 4, none⟩) (by first | exact h5l | (simp; omega))).trans (by first | exact q4 | exact (Below.cell ((Below.refl w2.heap.size w2).alloc (Nat.le_refl _) _) h5l).trans q4); try (have hh := newC hb3; have y0 : w3.cell? ⟨w2.heap.size, 0, none⟩ = some (.int .i64 0) := (by rw [Lib.cell_of_heap hh]; rfl); have y1 : w3.cell? ⟨w2.heap.size, 1, none⟩ = some (.int .i64 0) := (by rw [Lib.cell_of_heap hh]; rfl); have y2 : w3.cell? ⟨w2.heap.size, 2, none⟩ = some (.int .i64 0) := (by rw [Lib.cell_of_heap hh]; rfl); have y3 : w3.cell? ⟨w2.heap.size, 3, none⟩ = some (.int .i64 0) := (by rw [Lib.cell_of_heap hh]; rfl); have y4 : w3.cell? ⟨w2.heap.size, 4, none⟩ = some (.bool false) := (by rw [Lib.cell_of_heap hh]; rfl); have y5 : w3.cell? ⟨w2.heap.size, 5, none⟩ = some (.string ⟨#[]⟩) := (by rw [Lib.cell_of_heap hh]; rfl); have f0 := Lib.frozen_of_heap hh 0; have f1 := Lib.frozen_of_heap hh 1; have f2 := Lib.frozen_of_heap hh 2; have f3 := Lib.frozen_of_heap hh 3; have f4 := Lib.frozen_of_heap hh 4; have f5 := Lib.frozen_of_heap hh 5; clear hh)))
          · go_wp2_with fail
            go_meet
            rw [HF.out]
            exact ⟨_, rfl, hb3.size, heap_alloc_new w3 _, (below_undrew hb3).alloc hb3.size _⟩
          · go_wp2_with fail
            go_meet
            rw [HF.out]
            exact ⟨_, rfl, Nat.le_refl _, heap_put (heap_put (heap_put (heap_put (heap_put (heap_put (newC hb3) 0 (.int .i64 (t.kd : Int))) 1 (.int .i64 (t.b : Int))) 2 (.int .i64 (t.e : Int))) 3 (.int .i64 (t.uo : Int))) 4 (.bool false)) 5 (.string ⟨#[]⟩), Below.setCell (Below.setCell (Below.setCell (Below.setCell (Below.setCell (Below.setCell ((((Below.refl w2.heap.size w2).alloc (Nat.le_refl _) _).drew).trans (below_le0 hb3 (by simp))) (p := ⟨w2.heap.size, 0, none⟩) (Nat.le_refl _) _) (p := ⟨w2.heap.size, 1, none⟩) (Nat.le_refl _) _) (p := ⟨w2.heap.size, 2, none⟩) (Nat.le_refl _) _) (p := ⟨w2.heap.size, 3, none⟩) (Nat.le_refl _) _) (p := ⟨w2.heap.size, 4, none⟩) (Nat.le_refl _) _) (p := ⟨w2.heap.size, 5, none⟩) (Nat.le_refl _) _⟩
        · have HF := Lib.hid (show (t.fl == 1) = true by rw [hf]; rfl)
          have hbit : bits BinOp.and IntKind.u8 ((1 : Nat) : Int) 1 = 1 := by decide
          have hbit2 : bits BinOp.and IntKind.u8 1 1 = 1 := by decide
          rw [hf] at q4 ⊢
          go_region_held3 (fun w' => w'.cell? ⟨C5, 0, none⟩ = some (.int .i32 (t.b : Int)) ∧ w'.cell? ⟨C5, 1, none⟩ = some (.int .i32 ((t.e : Int) - t.b)) ∧ w'.cell? ⟨C5, 2, none⟩ = some (.int .u16 (t.uo : Int)) ∧ w'.cell? ⟨C5, 3, none⟩ = some (.int .u8 (t.kd : Int)) ∧ w'.cell? ⟨C5, 4, none⟩ = some (.int .u8 ((1 : Nat) : Int))) (go_keep)
            ((go_at_call 35; refine (E.out _).mono ?_; rintro x w3 ⟨rfl, hb3⟩; have j0 := (hb3.cell (p := ⟨C5, 0, none⟩) (by first | exact h5l | (simp; omega))).trans (by first | exact q0 | exact (Below.cell ((Below.refl w2.heap.size w2).alloc (Nat.le_refl _) _) h5l).trans q0); have j1 := (hb3.cell (p := ⟨C5, 1, none⟩) (by first | exact h5l | (simp; omega))).trans (by first | exact q1 | exact (Below.cell ((Below.refl w2.heap.size w2).alloc (Nat.le_refl _) _) h5l).trans q1); have j2 := (hb3.cell (p := ⟨C5, 2, none⟩) (by first | exact h5l | (simp; omega))).trans (by first | exact q2 | exact (Below.cell ((Below.refl w2.heap.size w2).alloc (Nat.le_refl _) _) h5l).trans q2); have j3 := (hb3.cell (p := ⟨C5, 3, none⟩) (by first | exact h5l | (simp; omega))).trans (by first | exact q3 | exact (Below.cell ((Below.refl w2.heap.size w2).alloc (Nat.le_refl _) _) h5l).trans q3); have j4 := (hb3.cell (p := ⟨C5, 4, none⟩) (by first | exact h5l | (simp; omega))).trans (by first | exact q4 | exact (Below.cell ((Below.refl w2.heap.size w2).alloc (Nat.le_refl _) _) h5l).trans q4); try (have hh := newC hb3; have y0 : w3.cell? ⟨w2.heap.size, 0, none⟩ = some (.int .i64 0) := (by rw [Lib.cell_of_heap hh]; rfl); have y1 : w3.cell? ⟨w2.heap.size, 1, none⟩ = some (.int .i64 0) := (by rw [Lib.cell_of_heap hh]; rfl); have y2 : w3.cell? ⟨w2.heap.size, 2, none⟩ = some (.int .i64 0) := (by rw [Lib.cell_of_heap hh]; rfl); have y3 : w3.cell? ⟨w2.heap.size, 3, none⟩ = some (.int .i64 0) := (by rw [Lib.cell_of_heap hh]; rfl); have y4 : w3.cell? ⟨w2.heap.size, 4, none⟩ = some (.bool false) := (by rw [Lib.cell_of_heap hh]; rfl); have y5 : w3.cell? ⟨w2.heap.size, 5, none⟩ = some (.string ⟨#[]⟩) := (by rw [Lib.cell_of_heap hh]; rfl); have f0 := Lib.frozen_of_heap hh 0; have f1 := Lib.frozen_of_heap hh 1; have f2 := Lib.frozen_of_heap hh 2; have f3 := Lib.frozen_of_heap hh 3; have f4 := Lib.frozen_of_heap hh 4; have f5 := Lib.frozen_of_heap hh 5; clear hh)))
          · go_wp2_with fail
            go_meet
            rw [HF.out]
            exact ⟨_, rfl, hb3.size, heap_alloc_new w3 _, (below_undrew hb3).alloc hb3.size _⟩
          · go_wp2_with fail
            go_meet
            rw [HF.out]
            exact ⟨_, rfl, Nat.le_refl _, heap_put (heap_put (heap_put (heap_put (heap_put (heap_put (newC hb3) 0 (.int .i64 (t.kd : Int))) 1 (.int .i64 (t.b : Int))) 2 (.int .i64 (t.e : Int))) 3 (.int .i64 (t.uo : Int))) 4 (.bool true)) 5 (.string ⟨#[]⟩), Below.setCell (Below.setCell (Below.setCell (Below.setCell (Below.setCell (Below.setCell ((((Below.refl w2.heap.size w2).alloc (Nat.le_refl _) _).drew).trans (below_le0 hb3 (by simp))) (p := ⟨w2.heap.size, 0, none⟩) (Nat.le_refl _) _) (p := ⟨w2.heap.size, 1, none⟩) (Nat.le_refl _) _) (p := ⟨w2.heap.size, 2, none⟩) (Nat.le_refl _) _) (p := ⟨w2.heap.size, 3, none⟩) (Nat.le_refl _) _) (p := ⟨w2.heap.size, 4, none⟩) (Nat.le_refl _) _) (p := ⟨w2.heap.size, 5, none⟩) (Nat.le_refl _) _⟩
      case rest =>
        obtain ⟨r, rfl, hr, hc, hbw⟩ := hcut
        have HC := Lib.hid hc
        have BW := Lib.hid hbw
        have hrl : r < wc.heap.size := (Array.getElem?_eq_some_iff.1 hc).1
        have BW1 := Lib.hid (B2.out.trans (below_le0 BW.out B2.out.size))
        have p0 : wc.cell? ⟨C5, 0, none⟩ = some (.int .i32 (t.b : Int)) := (BW.out.cell (p := ⟨C5, 0, none⟩) h5l).trans q0
        have p1 : wc.cell? ⟨C5, 1, none⟩ = some (.int .i32 ((t.e : Int) - t.b)) := (BW.out.cell (p := ⟨C5, 1, none⟩) h5l).trans q1
        have p2 : wc.cell? ⟨C5, 2, none⟩ = some (.int .u16 (t.uo : Int)) := (BW.out.cell (p := ⟨C5, 2, none⟩) h5l).trans q2
        have p3 : wc.cell? ⟨C5, 3, none⟩ = some (.int .u8 (t.kd : Int)) := (BW.out.cell (p := ⟨C5, 3, none⟩) h5l).trans q3
        have p4 : wc.cell? ⟨C5, 4, none⟩ = some (.int .u8 (t.fl : Int)) := (BW.out.cell (p := ⟨C5, 4, none⟩) h5l).trans q4
        have D := Lib.hid (decI s t wc (Utf8Tabs_below T.out (B1.out.trans (below_le0 BW1.out B1.out.size))) hs TOK.out)
        obtain ⟨txt, htxt⟩ : ∃ x : ByteArray, (⟨(decText t.kd ((s.extract t.b t.e).data.toList)).toArray⟩ : ByteArray) = x := ⟨_, rfl⟩
        rw [htxt] at D
        have HTXT := Lib.hid htxt
        clear hc hbw htxt q0 q1 q2 q3 q4
        go_wp2_with fail
        refine (D.out).mono ?_
        rintro e w4 ⟨rfl, hb4⟩
        have HC4 := Lib.hid ((hb4.block r hrl).trans HC.out)
        have B4 := Lib.hid (BW.out.trans (below_le0 hb4 BW.out.size))
        have n5 : w4.cell? ⟨r, 5, none⟩ = some (.string ⟨#[]⟩) := (by rw [Lib.cell_of_heap HC4.out]; rfl)
        have z5 := Lib.frozen_of_heap HC4.out 5
        clear hb4 p0 p1 p2 p3 p4
        go_upto_region 7 with fail
        obtain ⟨w5, hw5⟩ : ∃ x, w4.setCell ⟨r, 5, none⟩ (.string txt) = x := ⟨_, rfl⟩
        have HC5 := Lib.hid (show w5.heap[r]? = some (.cells #[.int .i64 (t.kd : Int), .int .i64 (t.b : Int), .int .i64 (t.e : Int), .int .i64 (t.uo : Int), .bool (t.fl == 1), .string txt] 36 (0, 0)) by rw [← hw5]; exact heap_put HC4.out 5 (.string txt))
        have B5 := Lib.hid (show Below w2.heap.size w2 w5 by rw [← hw5]; exact B4.out.setCell (p := ⟨r, 5, none⟩) hr _)
        have B51 := Lib.hid (B2.out.trans (below_le0 B5.out B2.out.size))
        have OV5 := Lib.hid (rowFr (b := 0) OV2.out (Fr.of B5.out) (by omega))
        have hw1s : w1.heap.size ≤ w5.heap.size := B51.out.size
        rw [hw5]
        have m0 : w5.cell? ⟨r, 0, none⟩ = some (.int .i64 (t.kd : Int)) := (by rw [Lib.cell_of_heap HC5.out]; rfl)
        have m1 : w5.cell? ⟨r, 1, none⟩ = some (.int .i64 (t.b : Int)) := (by rw [Lib.cell_of_heap HC5.out]; rfl)
        have m2 : w5.cell? ⟨r, 2, none⟩ = some (.int .i64 (t.e : Int)) := (by rw [Lib.cell_of_heap HC5.out]; rfl)
        have m3 : w5.cell? ⟨r, 3, none⟩ = some (.int .i64 (t.uo : Int)) := (by rw [Lib.cell_of_heap HC5.out]; rfl)
        have m4 : w5.cell? ⟨r, 4, none⟩ = some (.bool (t.fl == 1)) := (by rw [Lib.cell_of_heap HC5.out]; rfl)
        have m5 : w5.cell? ⟨r, 5, none⟩ = some (.string txt) := (by rw [Lib.cell_of_heap HC5.out]; rfl)
        clear hw5 n5 z5
        have wi : IntKind.i64.wrap ((i : Int) + 1) = (i : Int) + 1 := IntWalk.i64_in _ (by omega)
        go_wp2_with (at_builtin; refine wpList_append_lies _ rfl _ _ 33 rfl w1.heap.size 36 i0 _ 6 56 Tryz.underlying33 hi hz0 hz1 hz2 rfl (by decide) _ i ((toks.take i).flatMap (tiC s)) rfl (OV5.out.alloc _) ⟨w5.heap.size, 0, none⟩ 1 1 [.int .i64 (t.kd : Int), .int .i64 (t.b : Int), .int .i64 (t.e : Int), .int .i64 (t.uo : Int), .bool (t.fl == 1), .string txt] rfl rfl (World.news_of_block (heap_alloc_new w5 _)) (fun u hu => by simp at hu; rcases hu with rfl | rfl | rfl | rfl | rfl | rfl <;> rfl) (by decide) (by unfold maxLen; omega) (by omega) (by simp; omega) (w5.heap.size + 1) (by simp) ?_; intro g6 cap w6 hown6 hgrow hat hlt6)
        have B6 := Lib.hid ((B51.out.alloc B51.out.size _).grown hgrow (by simp; omega) (fun x hx => (OV5.out.lt x hx).1))
        have HTI := Lib.hid (show tiC s t = [.int .i64 (t.kd : Int), .int .i64 (t.b : Int), .int .i64 (t.e : Int), .int .i64 (t.uo : Int), .bool (t.fl == 1), .string txt] by unfold tiC; rw [HTXT.out])
        have OWN6 := Lib.hid hown6
        clear hown6 hgrow hat hlt6
        go_roundw
        case rel =>
          refine ⟨i + 1, rfl, by omega, ?_, B6.out⟩
          rw [List.take_add_one, TK.out, Option.toList_some, tiC_append, HTI.out]
          exact OWN6.out
        case measure =>
          show toks.length - ((i : Int) + 1).toNat < toks.length - (i : Int).toNat
          omega
    · have g1 : decide ((i : Int) < (toks.length : Int)) = false := decide_eq_false (by omega)
      obtain rfl : i = toks.length := by omega
      go_wp2_with fail
      refine bodyPost_ret (results_tmp rfl _ _ _) rfl ?_
      refine ⟨_, rfl, ?_, B1.out.trans (below_le0 HB.out B1.out.size)⟩
      have h1 := rowBase (base2 := w.heap.size) HOV.out B1.out.size
      rwa [List.take_length] at h1
end Go.Proofs.YtmgkccnfhkcncaaGreatDoor

namespace Go.Proofs.YtmgkccnfhkcncaaGreatDoor
open Go.RowKit
attribute [local go_sem ↓] Go.wp_at_zero Go.wp_at_succ

theorem ti_cells {s : ByteArray} {w : World} {base : Nat} {v : Value} {n : Nat} {toks : List TkB} {e : TypeId} (h : w.ownsRow base e 6 v n (toks.flatMap (tiC s))) {g : Nat} (hg : v.ownBlock = some g) {i : Nat} {t : TkB} (ht : toks[i]? = some t) (j : Nat) (u : Value) (hj : (tiC s t)[j]? = some u) :
    w.cell? ⟨g, i * 6 + j, none⟩ = some u := by
  have hx : (toks.flatMap (tiC s))[i * 6 + j]? = some u := by
    clear h hg
    induction toks generalizing i with
    | nil => simp at ht
    | cons a r ih =>
      rw [List.flatMap_cons]
      cases i with
      | zero =>
        simp only [List.getElem?_cons_zero, Option.some.injEq] at ht
        subst ht
        have : j < (tiC s a).length := (List.getElem?_eq_some_iff.1 hj).1
        rw [Nat.zero_mul, Nat.zero_add, List.getElem?_append_left this]
        exact hj
      | succ i =>
        simp only [List.getElem?_cons_succ] at ht
        have h5 : (tiC s a).length = 6 := rfl
        rw [List.getElem?_append_right (by rw [h5]; omega), h5, show (i + 1) * 6 + j - 6 = i * 6 + j by omega]
        exact ih ht
  have h2 := h.cells hg _ _ hx
  rwa [show ((⟨g, 0, none⟩ : Addr).add (i * 6 + j)) = ⟨g, i * 6 + j, none⟩ by unfold Addr.add; split <;> simp_all] at h2

set_option maxHeartbeats 8000000 in
set_option maxRecDepth 1000000 in
theorem mergedI (s : ByteArray) (toks : List TkB) (base : Nat) (w1 : World) (oa : Option Addr) (oc : Nat) (hown : w1.ownsRow base 36 6 (.slice oa toks.length oc) toks.length (toks.flatMap (tiC s))) (hk : ∀ t ∈ toks, t.kd ≠ 38) (hz : toks.length ≤ 1073741824) :
    Calls Tryz.prog 38 #[.slice oa toks.length oc] w1 fun e w' => ∃ a c, e = .returned (.slice a toks.length c) ∧ w'.ownsRow w1.heap.size 36 6 (.slice a toks.length c) toks.length (toks.flatMap (tiC s)) ∧ Below w1.heap.size w1 w' := by
  have OWN := Lib.hid hown
  have HK := Lib.hid hk
  obtain ⟨i0, hi, hz0, hz1, hz2⟩ := parts_of infoIT
  have START := Lib.hid (show IRel s toks w1 (.slice none 0 0) (.int .i64 ((0 : Nat) : Int)) w1 from ⟨0, rfl, Nat.zero_le _, World.ownsRow_nil _ _ _ _, Below.refl _ _⟩)
  clear hown hk
  go_enter Tryz.func38, Tryz.ntmps38
  go_wp2_with fail
  go_loopw [3, 9] (fun ov iv wr => IRel s toks w1 ov iv wr) (fun _ iv _ => toks.length - (numOf (some iv)).toNat)
  case atStart => exact START.out
  case round =>
    obtain ⟨i, rfl, hil, hov, hB⟩ := hrel
    clear START
    have HOV := Lib.hid hov
    have HB := Lib.hid hB
    clear hov hB
    by_cases hi2 : i < toks.length
    · have g1 : decide ((i : Int) < (toks.length : Int)) = true := decide_eq_true (by omega)
      obtain ⟨g, rfl, hgb, hgl⟩ : ∃ g, oa = some ⟨g, 0, none⟩ ∧ base ≤ g ∧ g < w1.heap.size := by
        rcases OWN.out.2 with ⟨h1, h2⟩ | ⟨g, cap, cur, h1, h2, h3, -⟩
        · omega
        · injection h1 with h1 _ _
          exact ⟨g, h1, h2, (Array.getElem?_eq_some_iff.1 h3).1⟩
      obtain ⟨t, htk⟩ : ∃ t, toks[i]? = some t := ⟨_, List.getElem?_eq_getElem hi2⟩
      have TK := Lib.hid htk
      have k38 : ((t.kd : Int) == 38) = false := beq_eq_false_iff_ne.2 (by have := HK.out t (List.mem_of_getElem? htk); omega)
      have C := Lib.hid (fun j u hj => (HB.out.cell (p := ⟨g, i * 6 + j, none⟩) hgl).trans (ti_cells OWN.out rfl htk j u hj))
      obtain ⟨txt, htxt⟩ : ∃ x : ByteArray, (⟨(decText t.kd ((s.extract t.b t.e).data.toList)).toArray⟩ : ByteArray) = x := ⟨_, rfl⟩
      have HTI := Lib.hid (show tiC s t = [.int .i64 (t.kd : Int), .int .i64 (t.b : Int), .int .i64 (t.e : Int), .int .i64 (t.uo : Int), .bool (t.fl == 1), .string txt] by unfold tiC; rw [htxt])
      have i1 : (0 : Int) ≤ (i : Int) := by omega
      have i2 : (i : Int) < (toks.length : Int) := by omega
      have i3 : ((i : Int)).toNat = i := by omega
      have d0 : wr.cell? ⟨g, i * 6, none⟩ = some (.int .i64 (t.kd : Int)) := C.out 0 _ (by rw [HTI.out]; rfl)
      have d1 : wr.cell? ⟨g, i * 6 + 1, none⟩ = some (.int .i64 (t.b : Int)) := C.out 1 _ (by rw [HTI.out]; rfl)
      have d2 : wr.cell? ⟨g, i * 6 + 2, none⟩ = some (.int .i64 (t.e : Int)) := C.out 2 _ (by rw [HTI.out]; rfl)
      have d3 : wr.cell? ⟨g, i * 6 + 3, none⟩ = some (.int .i64 (t.uo : Int)) := C.out 3 _ (by rw [HTI.out]; rfl)
      have d4 : wr.cell? ⟨g, i * 6 + 4, none⟩ = some (.bool (t.fl == 1)) := C.out 4 _ (by rw [HTI.out]; rfl)
      have d5 : wr.cell? ⟨g, i * 6 + 5, none⟩ = some (.string txt) := C.out 5 _ (by rw [HTI.out]; rfl)
      have wi : IntKind.i64.wrap ((i : Int) + 1) = (i : Int) + 1 := IntWalk.i64_in _ (by omega)
      clear htk htxt
      obtain ⟨va, vc, rfl⟩ := rowForm HOV.out
      go_upto_region 7 with fail
      obtain ⟨C5, hC5⟩ : ∃ x, wr.heap.size = x := ⟨_, rfl⟩
      obtain ⟨w5, hw5⟩ : ∃ x, wr.alloc (.cells #[.int .i64 (t.kd : Int), .int .i64 (t.b : Int), .int .i64 (t.e : Int), .int .i64 (t.uo : Int), .bool (t.fl == 1), .string txt] 36) = x := ⟨_, rfl⟩
      have HC5 := Lib.hid (show w5.heap[C5]? = some (.cells #[.int .i64 (t.kd : Int), .int .i64 (t.b : Int), .int .i64 (t.e : Int), .int .i64 (t.uo : Int), .bool (t.fl == 1), .string txt] 36 (0, 0)) by rw [← hw5, ← hC5]; exact heap_alloc_new wr _)
      have B51 := Lib.hid (show Below w1.heap.size w1 w5 by rw [← hw5]; exact HB.out.alloc HB.out.size _)
      have OV5 := Lib.hid (show w5.ownsRow w1.heap.size 36 6 _ i ((toks.take i).flatMap (tiC s)) by rw [← hw5]; exact HOV.out.alloc _)
      have hw1s : w1.heap.size ≤ w5.heap.size := B51.out.size
      rw [hC5, hw5]
      have m0 : w5.cell? ⟨C5, 0, none⟩ = some (.int .i64 (t.kd : Int)) := (by rw [Lib.cell_of_heap HC5.out]; rfl)
      have m1 : w5.cell? ⟨C5, 1, none⟩ = some (.int .i64 (t.b : Int)) := (by rw [Lib.cell_of_heap HC5.out]; rfl)
      have m2 : w5.cell? ⟨C5, 2, none⟩ = some (.int .i64 (t.e : Int)) := (by rw [Lib.cell_of_heap HC5.out]; rfl)
      have m3 : w5.cell? ⟨C5, 3, none⟩ = some (.int .i64 (t.uo : Int)) := (by rw [Lib.cell_of_heap HC5.out]; rfl)
      have m4 : w5.cell? ⟨C5, 4, none⟩ = some (.bool (t.fl == 1)) := (by rw [Lib.cell_of_heap HC5.out]; rfl)
      have m5 : w5.cell? ⟨C5, 5, none⟩ = some (.string txt) := (by rw [Lib.cell_of_heap HC5.out]; rfl)
      clear hw5 hC5 d0 d1 d2 d3 d4 d5
      go_wp2_with (at_builtin; refine wpList_append_lies _ rfl _ _ 33 rfl w1.heap.size 36 i0 _ 6 56 Tryz.underlying33 hi hz0 hz1 hz2 rfl (by decide) _ i ((toks.take i).flatMap (tiC s)) rfl (OV5.out.alloc _) ⟨w5.heap.size, 0, none⟩ 1 1 [.int .i64 (t.kd : Int), .int .i64 (t.b : Int), .int .i64 (t.e : Int), .int .i64 (t.uo : Int), .bool (t.fl == 1), .string txt] rfl rfl (World.news_of_block (heap_alloc_new w5 _)) (fun u hu => by simp at hu; rcases hu with rfl | rfl | rfl | rfl | rfl | rfl <;> rfl) (by decide) (by unfold maxLen; omega) (by omega) (by simp; omega) (w5.heap.size + 1) (by simp) ?_; intro g6 cap w6 hown6 hgrow hat hlt6)
      have B6 := Lib.hid ((B51.out.alloc B51.out.size _).grown hgrow (by simp; omega) (fun x hx => (OV5.out.lt x hx).1))
      have OWN6 := Lib.hid hown6
      clear hown6 hgrow hat hlt6
      go_roundw
      case rel =>
        refine ⟨i + 1, rfl, by omega, ?_, B6.out⟩
        rw [List.take_add_one, TK.out, Option.toList_some, tiC_append, HTI.out]
        exact OWN6.out
      case measure =>
        show toks.length - ((i : Int) + 1).toNat < toks.length - (i : Int).toNat
        omega
    · have g1 : decide ((i : Int) < (toks.length : Int)) = false := decide_eq_false (by omega)
      obtain rfl : i = toks.length := by omega
      obtain ⟨va, vc, rfl⟩ := rowForm HOV.out
      go_wp2_with fail
      refine bodyPost_ret (results_tmp rfl _ _ _) rfl ?_
      refine ⟨_, _, rfl, ?_, HB.out⟩
      have h1 := HOV.out
      rwa [List.take_length] at h1
end Go.Proofs.YtmgkccnfhkcncaaGreatDoor

namespace Go.Proofs.YtmgkccnfhkcncaaGreatDoor
open Go.RowKit
attribute [local go_sem ↓] Go.wp_at_zero Go.wp_at_succ

theorem put6H {w : World} {g : Nat} {T : TypeId} {a0 a1 a2 a3 a4 a5 : Value} (h : w.heap[g]? = some (.cells #[a0, a1, a2, a3, a4, a5] T (0, 0))) (v0 v1 v2 v3 v4 v5 : Value) : (World.setCell (World.setCell (World.setCell (World.setCell (World.setCell (World.setCell w ⟨g, 0, none⟩ v0) ⟨g, 1, none⟩ v1) ⟨g, 2, none⟩ v2) ⟨g, 3, none⟩ v3) ⟨g, 4, none⟩ v4) ⟨g, 5, none⟩ v5).heap[g]? = some (.cells #[v0, v1, v2, v3, v4, v5] T (0, 0)) :=
  heap_put (heap_put (heap_put (heap_put (heap_put (heap_put (h) 0 v0) 1 v1) 2 v2) 3 v3) 4 v4) 5 v5
theorem put6B {a w : World} {g : Nat} (h : Below g a w) (v0 v1 v2 v3 v4 v5 : Value) : Below g a (World.setCell (World.setCell (World.setCell (World.setCell (World.setCell (World.setCell w ⟨g, 0, none⟩ v0) ⟨g, 1, none⟩ v1) ⟨g, 2, none⟩ v2) ⟨g, 3, none⟩ v3) ⟨g, 4, none⟩ v4) ⟨g, 5, none⟩ v5) :=
  Below.setCell (Below.setCell (Below.setCell (Below.setCell (Below.setCell (Below.setCell (h) (p := ⟨g, 0, none⟩) (Nat.le_refl _) v0) (p := ⟨g, 1, none⟩) (Nat.le_refl _) v1) (p := ⟨g, 2, none⟩) (Nat.le_refl _) v2) (p := ⟨g, 3, none⟩) (Nat.le_refl _) v3) (p := ⟨g, 4, none⟩) (Nat.le_refl _) v4) (p := ⟨g, 5, none⟩) (Nat.le_refl _) v5
theorem infoIT6 : (Tryz.prog.info? 36).map (·.size) = some 6 := by kernel_rfl
theorem resCellTmp {P : Program} {fn : Func} {p q : Tmp} {ty : TypeId} (h : fn.results = #[.cell p ty, .tmp q]) (tmps : Array Value) (w : World) (g : Nat) (t : TypeId) (cs : Array Value) (fr : Nat × Nat) (d : TypeDesc)
    (hp : tmps.getD p undef = .pointer (some ⟨g, 0, none⟩)) (hg : w.heap[g]? = some (.cells cs t fr))
    (hu : P.underlying ty = some d) (hd : (match d with | .struct _ | .array _ _ => true | _ => false) = true) (hi : (P.info? ty).map (·.size) = some cs.size) :
    (results fn tmps).run P w = .ok (.tuple #[.agg cs, tmps.getD q undef]) w := by
  have hp' : tmps[p]?.getD undef = .pointer (some ⟨g, 0, none⟩) := by simpa using hp
  simp [results, h, hp', asAddr, run_loadVar_row w g t ty cs fr d hg hu hd hi]

set_option maxHeartbeats 8000000 in
set_option maxRecDepth 1000000 in
theorem oneI (s : ByteArray) (t : TkB) (w : World) (hT : Lib.Utf8Tabs 0 1 w) (hs : s.size ≤ 1073741824) (hb : hdB s.data.toList ≠ 65279) (ht : TokB s.size [t] s.data.toList) (hok : TkOk s t) (hk : t.kd ≠ 38) (hb0 : t.b = 0) (he : t.e = s.size) :
    Calls Tryz.prog 20 #[.string s] w fun e w' => e = .returned (.tuple #[.agg (tiC s t).toArray, .bool true]) ∧ Below w.heap.size w w' := by
  have T := Lib.hid hT
  have TI := Lib.hid (fun w hT => tokensI s [t] w hT hs hb ht (fun x hx => by rw [List.mem_singleton.1 hx]; exact hok))
  have MI := Lib.hid (fun base w1 oa oc hown => mergedI s [t] base w1 oa oc hown (fun x hx => by rw [List.mem_singleton.1 hx]; exact hk) (by simp))
  clear hT hb ht hok hk
  go_enter Tryz.func20, Tryz.ntmps20
  go_wp2_with fail
  refine (TI.out _ (Utf8Tabs_below T.out ((Below.refl _ _).alloc (Nat.le_refl _) _))).mono ?_
  rintro e w1 ⟨tv, rfl, hown, hb1⟩
  obtain ⟨oa, oc, rfl⟩ := rowForm hown
  have hr := (hb1.block w.heap.size (by simp)).trans (heap_alloc_new w _)
  have HR := Lib.hid hr
  have B1 := Lib.hid (((Below.refl w.heap.size w).alloc (Nat.le_refl _) _).trans (below_le0 hb1 (by simp)))
  have M := Lib.hid (MI.out _ w1 oa oc hown)
  have hw1 : w.heap.size < w1.heap.size := by have := hb1.size; simp at this; omega
  clear hown hb1 hr
  go_wp2_with fail
  refine (M.out).mono ?_
  rintro e w2 ⟨a2, c2, rfl, hown2, hb2⟩
  obtain ⟨g, rfl, hgb⟩ : ∃ g, a2 = some ⟨g, 0, none⟩ ∧ w1.heap.size ≤ g := by
    rcases hown2.2 with ⟨h1, h2⟩ | ⟨g, cap, cur, h1, h2, h3, -⟩
    · cases h2
    · injection h1 with h1 _ _
      exact ⟨g, h1, h2⟩
  have HR2 := Lib.hid ((hb2.block w.heap.size hw1).trans HR.out)
  have B2 := Lib.hid (B1.out.trans (below_le0 hb2 B1.out.size))
  have OWN2 := Lib.hid hown2
  obtain ⟨txt, htxt⟩ : ∃ x : ByteArray, (⟨(decText t.kd ((s.extract t.b t.e).data.toList)).toArray⟩ : ByteArray) = x := ⟨_, rfl⟩
  have HTI := Lib.hid (show tiC s t = [.int .i64 (t.kd : Int), .int .i64 0, .int .i64 (s.size : Int), .int .i64 (t.uo : Int), .bool (t.fl == 1), .string txt] by unfold tiC; rw [htxt, hb0, he]; rfl)
  have C := Lib.hid (fun j u hj => ti_cells (i := 0) OWN2.out rfl rfl j u hj)
  have d0 : w2.cell? ⟨g, 0, none⟩ = some (.int .i64 (t.kd : Int)) := C.out 0 _ (by rw [HTI.out]; rfl)
  have d1 : w2.cell? ⟨g, 1, none⟩ = some (.int .i64 0) := C.out 1 _ (by rw [HTI.out]; rfl)
  have d2 : w2.cell? ⟨g, 2, none⟩ = some (.int .i64 (s.size : Int)) := C.out 2 _ (by rw [HTI.out]; rfl)
  have d3 : w2.cell? ⟨g, 3, none⟩ = some (.int .i64 (t.uo : Int)) := C.out 3 _ (by rw [HTI.out]; rfl)
  have d4 : w2.cell? ⟨g, 4, none⟩ = some (.bool (t.fl == 1)) := C.out 4 _ (by rw [HTI.out]; rfl)
  have d5 : w2.cell? ⟨g, 5, none⟩ = some (.string txt) := C.out 5 _ (by rw [HTI.out]; rfl)
  clear hown2 hb2 htxt
  go_upto_region 4 with fail
  have q0 : w2.cell? ⟨w.heap.size, 0, none⟩ = some (.int .i64 0) := (by rw [Lib.cell_of_heap HR2.out]; rfl)
  have z0 := Lib.frozen_of_heap HR2.out 0
  have q1 : w2.cell? ⟨w.heap.size, 1, none⟩ = some (.int .i64 0) := (by rw [Lib.cell_of_heap HR2.out]; rfl)
  have z1 := Lib.frozen_of_heap HR2.out 1
  have q2 : w2.cell? ⟨w.heap.size, 2, none⟩ = some (.int .i64 0) := (by rw [Lib.cell_of_heap HR2.out]; rfl)
  have z2 := Lib.frozen_of_heap HR2.out 2
  have q3 : w2.cell? ⟨w.heap.size, 3, none⟩ = some (.int .i64 0) := (by rw [Lib.cell_of_heap HR2.out]; rfl)
  have z3 := Lib.frozen_of_heap HR2.out 3
  have q4 : w2.cell? ⟨w.heap.size, 4, none⟩ = some (.bool false) := (by rw [Lib.cell_of_heap HR2.out]; rfl)
  have z4 := Lib.frozen_of_heap HR2.out 4
  have q5 : w2.cell? ⟨w.heap.size, 5, none⟩ = some (.string ⟨#[]⟩) := (by rw [Lib.cell_of_heap HR2.out]; rfl)
  have z5 := Lib.frozen_of_heap HR2.out 5
  have hne1 : ¬ (w.heap.size = g) := by omega
  have hne2 : ¬ (g = w.heap.size) := by omega
  go_region_held3 (fun w' => w'.cell? ⟨g, 0, none⟩ = some (.int .i64 (t.kd : Int)) ∧ w'.cell? ⟨g, 1, none⟩ = some (.int .i64 0) ∧ w'.cell? ⟨g, 2, none⟩ = some (.int .i64 (s.size : Int)) ∧ w'.cell? ⟨g, 3, none⟩ = some (.int .i64 (t.uo : Int)) ∧ w'.cell? ⟨g, 4, none⟩ = some (.bool (t.fl == 1)) ∧ w'.cell? ⟨g, 5, none⟩ = some (.string txt)) (go_keep) (fail)
  iterate 4 go_step
  have HPUT := Lib.hid (put6H HR2.out (.int .i64 (t.kd : Int)) (.int .i64 0) (.int .i64 (s.size : Int)) (.int .i64 (t.uo : Int)) (.bool (t.fl == 1)) (.string txt))
  have HBEL := Lib.hid (put6B B2.out (.int .i64 (t.kd : Int)) (.int .i64 0) (.int .i64 (s.size : Int)) (.int .i64 (t.uo : Int)) (.bool (t.fl == 1)) (.string txt))
  refine bodyPost_ret (resCellTmp (P := Tryz.prog) rfl _ _ w.heap.size 36 #[.int .i64 (t.kd : Int), .int .i64 0, .int .i64 (s.size : Int), .int .i64 (t.uo : Int), .bool (t.fl == 1), .string txt] (0, 0) _ ?hp ?hg Tryz.underlying36 rfl infoIT6) rfl ?hpost
  case hp => rfl
  case hg => rw [show ∀ x : World, x.drew.heap = x.heap from fun _ => rfl]; exact HPUT.out
  case hpost => exact ⟨by rw [HTI.out]; rfl, HBEL.out.drew⟩
end Go.Proofs.YtmgkccnfhkcncaaGreatDoor
