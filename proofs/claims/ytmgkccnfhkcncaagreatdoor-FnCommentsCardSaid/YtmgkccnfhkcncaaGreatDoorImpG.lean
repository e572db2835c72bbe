/-
  impl.tokenize, impl.Tokens and impl.Comments: any text of at most 2^20 bytes that does not begin with a byte order mark. wakes.
-/
import Derived.Test.YtmgkccnfhkcncaaGreatDoorTokG
import Derived.Test.YtmgkccnfhkcncaaGreatDoorDec
import Derived.Test.YtmgkccnfhkcncaaGreatDoorFol
import Derived.Deep.AppendLies
import Derived.Outline
import Derived.Deep.RegionHeld3
import Derived.Deep.DeepCutAuto
import Derived.Deep.CutBlock
namespace Go.Proofs.YtmgkccnfhkcncaaGreatDoor
open Go.RowKit
attribute [local go_sem ↓] Go.wp_at_zero Go.wp_at_succ

theorem LogI.form (G : LogI) : ∃ g1 g2 g3 g4 x1 x2 x3 x4, G.val = #[.func g1 #[] x1, .func g2 #[] x2, .func g3 #[] x3, .func g4 #[] x4, .int .i8 3, .map none] := ⟨_, _, _, _, _, _, _, _, rfl⟩
set_option maxHeartbeats 8000000 in
set_option maxRecDepth 1000000 in
theorem tokG (s : ByteArray) (w : World) (hT : Lib.Utf8Tabs 0 1 w) (hs : s.size ≤ 1048576) (hb : hdB s.data.toList ≠ 65279) :
    Calls Tryz.prog 34 #[.string s] w fun e w' => ∃ ts cs tv cv lv t x y z, e = .returned (.agg #[tv, cv, lv, .string t, .int .i32 x, .int .i32 y, .int .i32 z]) ∧ RunB s ts cs s.data.toList ∧ cs.length ≤ s.size ∧ w'.ownsRow w.heap.size 66 5 tv ts.length (ts.flatMap tqC) ∧ w'.ownsRow w.heap.size 55 2 cv cs.length (rngC cs) ∧ Below w.heap.size w w' := by
  have T := Lib.hid hT
  have TZ := Lib.hid (fun G g1 g2 g3 g4 x1 x2 x3 x4 w hT hN hgh hG => tokzG s G g1 g2 g3 g4 x1 x2 x3 x4 w hT hs hb hN hgh hG)
  have ND := Lib.hid (fun w => ndlG w)
  clear hT hb
  unfold srcC at TZ
  go_enter Tryz.func34, Tryz.ntmps34
  go_wp2_with fail
  refine (ND.out _).mono ?_
  rintro e w1 ⟨G, rfl, hN, hgk, hgh, hb1⟩
  obtain ⟨g1, g2, g3, g4, x1, x2, x3, x4, hG⟩ := G.form
  have HG := Lib.hid hG
  rw [hG]
  have HN := Lib.hid hN
  have HGK := Lib.hid hgk
  have HGH := Lib.hid hgh
  have B1 := Lib.hid (((Below.refl w.heap.size w).alloc (Nat.le_refl _) _).trans (below_le0 hb1 (by simp)))
  have hr := (hb1.block w.heap.size (by simp)).trans (heap_alloc_new w _)
  have HR := Lib.hid hr
  have hw1 : w.heap.size < w1.heap.size := by have := hb1.size; simp at this; omega
  have hgk1 : w.heap.size + 1 ≤ G.gk := by simp at hgk; omega
  clear hb1 hr hN hG hgk hgh
  go_wp2_with fail
  refine (TZ.out G _ _ _ _ _ _ _ _ _ ⟨w, T.out, by omega, B1.out.alloc B1.out.size _⟩ (HN.out.below (B := w1.heap.size) ((Below.refl _ _).alloc (Nat.le_refl _) _) HGH.out) (by have := HGH.out; simp; omega) HG.out).mono ?_
  rintro e w2 ⟨ts, cs, tv, cv, la, ln, lc, t, x, y, z, rfl, hrun, hcl, hown, hcom, hb2⟩
  obtain ⟨ta, tc, rfl⟩ := rowForm hown
  obtain ⟨ca, cc, rfl⟩ := rowForm hcom
  have B2 := Lib.hid ((B1.out.alloc B1.out.size (.cells #[.func g1 #[] x1, .func g2 #[] x2, .func g3 #[] x3, .func g4 #[] x4, .int .i8 3, .map none] 83)).trans (below_le0 hb2 (by omega)))
  have HR2 := Lib.hid ((hb2.block w.heap.size (by omega)).trans ((Below.heap_alloc _ _ _ hw1).trans HR.out))
  have OWN := Lib.hid (rowBase (base2 := w.heap.size + 1) hown (by simp; omega))
  have COM := Lib.hid (rowBase (base2 := w.heap.size + 1) hcom (by simp; omega))
  have RUN := Lib.hid hrun
  have HCL := Lib.hid hcl
  clear hown hb2 hcom hrun hcl
  have q0 : w2.cell? ⟨w.heap.size, 0, none⟩ = some (.slice none 0 0) := by rw [Lib.cell_of_heap HR2.out]; rfl
  have z0 := Lib.frozen_of_heap HR2.out 0
  have q1 : w2.cell? ⟨w.heap.size, 1, none⟩ = some (.slice none 0 0) := by rw [Lib.cell_of_heap HR2.out]; rfl
  have z1 := Lib.frozen_of_heap HR2.out 1
  have q2 : w2.cell? ⟨w.heap.size, 2, none⟩ = some (.slice none 0 0) := by rw [Lib.cell_of_heap HR2.out]; rfl
  have z2 := Lib.frozen_of_heap HR2.out 2
  have q3 : w2.cell? ⟨w.heap.size, 3, none⟩ = some (.string ⟨#[]⟩) := by rw [Lib.cell_of_heap HR2.out]; rfl
  have z3 := Lib.frozen_of_heap HR2.out 3
  have q4 : w2.cell? ⟨w.heap.size, 4, none⟩ = some (.int .i32 0) := by rw [Lib.cell_of_heap HR2.out]; rfl
  have z4 := Lib.frozen_of_heap HR2.out 4
  have q5 : w2.cell? ⟨w.heap.size, 5, none⟩ = some (.int .i32 0) := by rw [Lib.cell_of_heap HR2.out]; rfl
  have z5 := Lib.frozen_of_heap HR2.out 5
  have q6 : w2.cell? ⟨w.heap.size, 6, none⟩ = some (.int .i32 0) := by rw [Lib.cell_of_heap HR2.out]; rfl
  have z6 := Lib.frozen_of_heap HR2.out 6
  go_wp2_with fail
  have hput := heap_put (heap_put (heap_put (heap_put (heap_put (heap_put (heap_put HR2.out 0 (.slice ta ts.length tc)) 1 (.slice ca cs.length cc)) 2 (.slice la ln lc)) 3 (.string t)) 4 (.int .i32 x)) 5 (.int .i32 y)) 6 (.int .i32 z)
  refine bodyPost_ret (results_cell_row (P := Tryz.prog) rfl _ _ w.heap.size _ #[.slice ta ts.length tc, .slice ca cs.length cc, .slice la ln lc, .string t, .int .i32 x, .int .i32 y, .int .i32 z] _ _ rfl hput Tryz.underlying59 rfl infoResC) rfl ?_
  have hH7 : w.heap.size < w.heap.size + 1 := by omega
  have hbe : w.heap.size ≤ w.heap.size := by omega
  refine ⟨ts, cs, _, _, _, _, _, _, _, rfl, RUN.out, HCL.out, rowBase (rowFr (rowFr (rowFr (rowFr (rowFr (rowFr (rowFr OWN.out (Fr.setCell _ _ _) hH7) (Fr.setCell _ _ _) hH7) (Fr.setCell _ _ _) hH7) (Fr.setCell _ _ _) hH7) (Fr.setCell _ _ _) hH7) (Fr.setCell _ _ _) hH7) (Fr.setCell _ _ _) hH7) (by omega), rowBase (rowFr (rowFr (rowFr (rowFr (rowFr (rowFr (rowFr COM.out (Fr.setCell _ _ _) hH7) (Fr.setCell _ _ _) hH7) (Fr.setCell _ _ _) hH7) (Fr.setCell _ _ _) hH7) (Fr.setCell _ _ _) hH7) (Fr.setCell _ _ _) hH7) (Fr.setCell _ _ _) hH7) (by omega), ?_⟩
  exact ((((((B2.out.setCell (p := ⟨w.heap.size, _, none⟩) hbe _).setCell (p := ⟨w.heap.size, _, none⟩) hbe _).setCell (p := ⟨w.heap.size, _, none⟩) hbe _).setCell (p := ⟨w.heap.size, _, none⟩) hbe _).setCell (p := ⟨w.heap.size, _, none⟩) hbe _).setCell (p := ⟨w.heap.size, _, none⟩) hbe _).setCell (p := ⟨w.heap.size, _, none⟩) hbe _
end Go.Proofs.YtmgkccnfhkcncaaGreatDoor

namespace Go.Proofs.YtmgkccnfhkcncaaGreatDoor
open Go.RowKit
attribute [local go_sem ↓] Go.wp_at_zero Go.wp_at_succ

/-- A token as impl hands it out. -/
def tiC (s : ByteArray) (t : Tq) : List Value := [.int .i64 (t.kd : Int), .int .i64 (t.b : Int), .int .i64 (t.e : Int), .int .i64 (t.uo : Int), .bool (t.fl == 1), .string ⟨(decText t.kd ((s.extract t.b t.e).data.toList)).toArray⟩]
theorem tiC_append (s : ByteArray) (a : List Tq) (t : Tq) : (a ++ [t]).flatMap (tiC s) = a.flatMap (tiC s) ++ tiC s t := by simp
theorem decTq (s : ByteArray) (t : Tq) (w : World) (hT : Lib.Utf8Tabs 0 1 w) (hs : s.size ≤ 1073741824) (h : TqOk s t) :
    Calls Tryz.prog 36 #[.agg #[.int .i32 (t.b : Int), .int .i32 ((t.e : Int) - t.b), .int .u16 (t.uo : Int), .int .u8 (t.kd : Int), .int .u8 (t.fl : Int)], .string s] w fun x w' => x = .returned (.string ⟨(decText t.kd ((s.extract t.b t.e).data.toList)).toArray⟩) ∧ Below w.heap.size w w' := by
  obtain ⟨h1, h2, h3, h4, h5, h6⟩ := h
  by_cases hk : t.kd = 37
  · rw [hk] at h5 ⊢
    exact decU s t.b t.e t.uo t.fl w hT h3 h4 hs h5
  · exact decT s t.b t.e t.kd t.uo t.fl w hT h3 h4 hs hk h5
theorem infoIT : (Tryz.prog.info? 36).map (fun i => (i.zero, i.size, i.bytes)) = some (some (.agg #[.int .i64 0, .int .i64 0, .int .i64 0, .int .i64 0, .bool false, .string ⟨#[]⟩]), 6, 56) := by kernel_rfl
/-- The loop of Tokens: i tokens are done. -/
def IRel (s : ByteArray) (toks : List Tq) (w1 : World) (ov iv : Value) (w : World) : Prop :=
  ∃ i : Nat, iv = .int .i64 (i : Int) ∧ i ≤ toks.length ∧ w.ownsRow w1.heap.size 36 6 ov i ((toks.take i).flatMap (tiC s)) ∧ Below w1.heap.size w1 w
theorem newC {w2 w3 : World} {Z : Array Value} {T : TypeId} (h : Below (w2.alloc (.cells Z T)).drew.heap.size (w2.alloc (.cells Z T)).drew w3) : w3.heap[w2.heap.size]? = some (.cells Z T (0, 0)) :=
  (h.block w2.heap.size (by show w2.heap.size < (w2.alloc (.cells Z T)).heap.size; simp)).trans (heap_alloc_new w2 _)
theorem wrap_i64n {n : Nat} (h : n ≤ 1073741824) : IntKind.i64.wrap (n : Int) = (n : Int) := IntWalk.i64_in _ (by omega)
/-- The cells of the i-th of a row's elements. -/
theorem tq_cells {w : World} {base : Nat} {v : Value} {n : Nat} {toks : List Tq} {e : TypeId} (h : w.ownsRow base e 5 v n (toks.flatMap tqC)) {g : Nat} (hg : v.ownBlock = some g) {i : Nat} {t : Tq} (ht : toks[i]? = some t) (j : Nat) (u : Value) (hj : (tqC t)[j]? = some u) :
    w.cell? ⟨g, i * 5 + j, none⟩ = some u := by
  have hx : (toks.flatMap tqC)[i * 5 + j]? = some u := by
    clear h hg
    induction toks generalizing i with
    | nil => simp at ht
    | cons a r ih =>
      rw [List.flatMap_cons]
      cases i with
      | zero =>
        simp only [List.getElem?_cons_zero, Option.some.injEq] at ht
        subst ht
        have : j < (tqC a).length := (List.getElem?_eq_some_iff.1 hj).1
        rw [Nat.zero_mul, Nat.zero_add, List.getElem?_append_left this]
        exact hj
      | succ i =>
        simp only [List.getElem?_cons_succ] at ht
        have h5 : (tqC a).length = 5 := rfl
        rw [List.getElem?_append_right (by rw [h5]; omega), h5, show (i + 1) * 5 + j - 5 = i * 5 + j by omega]
        exact ih ht
  have h2 := h.cells hg _ _ hx
  rwa [show ((⟨g, 0, none⟩ : Addr).add (i * 5 + j)) = ⟨g, i * 5 + j, none⟩ by unfold Addr.add; split <;> simp_all] at h2
set_option maxHeartbeats 8000000 in
set_option maxRecDepth 1000000 in
theorem tokensG (s : ByteArray) (w : World) (hT : Lib.Utf8Tabs 0 1 w) (hs : s.size ≤ 1048576) (hb : hdB s.data.toList ≠ 65279) :
    Calls Tryz.prog 17 #[.string s] w fun e w' => ∃ toks cs tv, e = .returned tv ∧ RunB s toks cs s.data.toList ∧ w'.ownsRow w.heap.size 36 6 tv toks.length (toks.flatMap (tiC s)) ∧ Below w.heap.size w w' := by
  have T := Lib.hid hT
  have TI := Lib.hid (fun w hT => tokG s w hT hs hb)
  clear hT hb
  go_enter Tryz.func17, Tryz.ntmps17
  go_wp2_with fail
  refine (TI.out _ T.out).mono ?_
  rintro e w1 ⟨toks, cs, tv, cv, lv, t1, x1, y1, z1, rfl, hrun, hcl, hown, hcom, hb1⟩
  have RUN := Lib.hid hrun
  have OK := Lib.hid (run_ok s toks cs _ hrun)
  have hlen := run_len s toks cs _ hrun
  rw [show s.data.toList.length = s.size by simp] at hlen
  clear hrun hcl hcom
  obtain ⟨oa, oc, rfl⟩ := rowForm hown
  have OWN := Lib.hid hown
  have B1 := Lib.hid hb1
  clear hown hb1
  have FLD : ∀ wx : World, (Instr.field 59 (.agg #[.slice oa toks.length oc, cv, lv, .string t1, .int .i32 x1, .int .i32 y1, .int .i32 z1]) 0).run Tryz.prog wx = .ok (.slice oa toks.length oc) wx := fun _ => by kernel_rfl
  obtain ⟨i0, hi, hz0, hz1, hz2⟩ := parts_of infoIT
  have START := Lib.hid (show IRel s toks w1 (.slice none 0 0) (.int .i64 ((0 : Nat) : Int)) w1 from ⟨0, rfl, Nat.zero_le _, World.ownsRow_nil _ _ _ _, Below.refl _ _⟩)
  go_wp2_with fail
  go_loopw [3, 11] (fun ov iv wr => IRel s toks w1 ov iv wr) (fun _ iv _ => toks.length - (numOf (some iv)).toNat)
  case atStart => exact START.out
  case round =>
    obtain ⟨i, rfl, hil, hov, hB⟩ := hrel
    clear START
    have HOV := Lib.hid hov
    have HB := Lib.hid hB
    clear hov hB
    by_cases hi2 : i < toks.length
    · have g1 : decide ((i : Int) < (toks.length : Int)) = true := decide_eq_true (by omega)
      obtain ⟨g, rfl, hgb, hgl⟩ : ∃ g, oa = some ⟨g, 0, none⟩ ∧ w.heap.size ≤ g ∧ g < w1.heap.size := by
        rcases OWN.out.2 with ⟨h1, h2⟩ | ⟨g, cap, cur, h1, h2, h3, -⟩
        · omega
        · injection h1 with h1 _ _
          exact ⟨g, h1, h2, (Array.getElem?_eq_some_iff.1 h3).1⟩
      obtain ⟨t, htk⟩ : ∃ t, toks[i]? = some t := ⟨_, List.getElem?_eq_getElem hi2⟩
      have TK := Lib.hid htk
      have TOK := Lib.hid (OK.out t (List.mem_of_getElem? htk))
      have C := Lib.hid (fun j u hj => (HB.out.cell (p := ⟨g, i * 5 + j, none⟩) hgl).trans (tq_cells OWN.out rfl htk j u hj))
      have i1 : (0 : Int) ≤ (i : Int) := by omega
      have i2 : (i : Int) < (toks.length : Int) := by omega
      have i3 : ((i : Int)).toNat = i := by omega
      have d0 : wr.cell? ⟨g, i * 5, none⟩ = some (.int .i32 (t.b : Int)) := C.out 0 _ rfl
      have d1 : wr.cell? ⟨g, i * 5 + 1, none⟩ = some (.int .i32 ((t.e : Int) - t.b)) := C.out 1 _ rfl
      have d2 : wr.cell? ⟨g, i * 5 + 2, none⟩ = some (.int .u16 (t.uo : Int)) := C.out 2 _ rfl
      have d3 : wr.cell? ⟨g, i * 5 + 3, none⟩ = some (.int .u8 (t.kd : Int)) := C.out 3 _ rfl
      have d4 : wr.cell? ⟨g, i * 5 + 4, none⟩ = some (.int .u8 (t.fl : Int)) := C.out 4 _ rfl
      clear htk
      go_upto_region 5 with fail
      obtain ⟨C5, hC5⟩ : ∃ x, wr.heap.size = x := ⟨_, rfl⟩
      obtain ⟨w2, hw2⟩ : ∃ x, wr.alloc (.cells #[.int .i32 (t.b : Int), .int .i32 ((t.e : Int) - t.b), .int .u16 (t.uo : Int), .int .u8 (t.kd : Int), .int .u8 (t.fl : Int)] 66) = x := ⟨_, rfl⟩
      have K5 := Lib.hid (show w2.heap[C5]? = some (.cells #[.int .i32 (t.b : Int), .int .i32 ((t.e : Int) - t.b), .int .u16 (t.uo : Int), .int .u8 (t.kd : Int), .int .u8 (t.fl : Int)] 66 (0, 0)) by rw [← hw2, ← hC5]; exact heap_alloc_new wr _)
      have B2 := Lib.hid (show Below w1.heap.size w1 w2 by rw [← hw2]; exact HB.out.alloc HB.out.size _)
      have OV2 := Lib.hid (show w2.ownsRow w1.heap.size 36 6 _ i ((toks.take i).flatMap (tiC s)) by rw [← hw2]; exact HOV.out.alloc _)
      have hC5b := Lib.hid (show w1.heap.size ≤ C5 by rw [← hC5]; exact HB.out.size)
      rw [hC5, hw2]
      have h5l : C5 < w2.heap.size := (Array.getElem?_eq_some_iff.1 K5.out).1
      have q0 : w2.cell? ⟨C5, 0, none⟩ = some (.int .i32 (t.b : Int)) := by rw [Lib.cell_of_heap K5.out]; rfl
      have q1 : w2.cell? ⟨C5, 1, none⟩ = some (.int .i32 ((t.e : Int) - t.b)) := by rw [Lib.cell_of_heap K5.out]; rfl
      have q2 : w2.cell? ⟨C5, 2, none⟩ = some (.int .u16 (t.uo : Int)) := by rw [Lib.cell_of_heap K5.out]; rfl
      have q3 : w2.cell? ⟨C5, 3, none⟩ = some (.int .u8 (t.kd : Int)) := by rw [Lib.cell_of_heap K5.out]; rfl
      have q4 : w2.cell? ⟨C5, 4, none⟩ = some (.int .u8 (t.fl : Int)) := by rw [Lib.cell_of_heap K5.out]; rfl
      clear hw2 hC5 d0 d1 d2 d3 d4
      obtain ⟨hkd, huo, hbe, hes, hdec, hfl⟩ := TOK.out
      have E := Lib.hid (fun w => rangeEndI t.b t.e w hbe (by omega))
      go_cut [6] (fun v wx => ∃ r, v = .pointer (some ⟨r, 0, none⟩) ∧ w2.heap.size ≤ r ∧ wx.heap[r]? = some (.cells #[.int .i64 (t.kd : Int), .int .i64 (t.b : Int), .int .i64 (t.e : Int), .int .i64 (t.uo : Int), .bool (t.fl == 1), .string ⟨#[]⟩] 36 (0, 0)) ∧ Below w2.heap.size w2 wx)
      case first =>
        have b0 : (0 : Int) ≤ (t.b : Int) := by omega
        have b1 : (t.b : Int) ≤ 1073741824 := by omega
        have b2 : (0 : Int) ≤ (t.e : Int) := by omega
        have b3 : (t.e : Int) ≤ 1073741824 := by omega
        have hne1 : ¬ (w2.heap.size = C5) := by omega
        have hne2 : ¬ (C5 = w2.heap.size) := by omega
        have wk : IntKind.i64.wrap (t.kd : Int) = (t.kd : Int) := wrap_i64n (by omega)
        have wb : IntKind.i64.wrap (t.b : Int) = (t.b : Int) := wrap_i64n (by omega)
        have we : IntKind.i64.wrap (t.e : Int) = (t.e : Int) := wrap_i64n (by omega)
        have wu : IntKind.i64.wrap (t.uo : Int) = (t.uo : Int) := wrap_i64n (by omega)
        have hf3 : t.fl = 0 ∨ t.fl = 1 ∨ t.fl = 2 := by omega
        rcases hf3 with hf | hf | hf
        · have HF := Lib.hid (show (t.fl == 1) = false by rw [hf]; rfl)
          have hbit : bits BinOp.and IntKind.u8 ((0 : Nat) : Int) 1 = 0 := by decide
          have hbit2 : bits BinOp.and IntKind.u8 0 1 = 0 := by decide
          rw [hf] at q4 ⊢
          go_region_held3 (fun w' => w'.cell? ⟨C5, 0, none⟩ = some (.int .i32 (t.b : Int)) ∧ w'.cell? ⟨C5, 1, none⟩ = some (.int .i32 ((t.e : Int) - t.b)) ∧ w'.cell? ⟨C5, 2, none⟩ = some (.int .u16 (t.uo : Int)) ∧ w'.cell? ⟨C5, 3, none⟩ = some (.int .u8 (t.kd : Int)) ∧ w'.cell? ⟨C5, 4, none⟩ = some (.int .u8 ((0 : Nat) : Int))) (go_keep)
            ((go_at_call 35; refine (E.out _).mono ?_; rintro x w3 ⟨rfl, hb3⟩; have j0 := (hb3.cell (p := ⟨C5, 0, none⟩) (by first | exact h5l | (simp; omega))).trans (by first | exact q0 | exact (Below.cell ((Below.refl w2.heap.size w2).alloc (Nat.le_refl _) _) h5l).trans q0); have j1 := (hb3.cell (p := ⟨C5, 1, none⟩) (by first | exact h5l | (simp; omega))).trans (by first | exact q1 | exact (Below.cell ((Below.refl w2.heap.size w2).alloc (Nat.le_refl _) _) h5l).trans q1); have j2 := (hb3.cell (p := ⟨C5, 2, none⟩) (by first | exact h5l | (simp; omega))).trans (by first | exact q2 | exact (Below.cell ((Below.refl w2.heap.size w2).alloc (Nat.le_refl _) _) h5l).trans q2); have j3 := (hb3.cell (p := ⟨C5, 3, none⟩) (by first | exact h5l | (simp; omega))).trans (by first | exact q3 | exact (Below.cell ((Below.refl w2.heap.size w2).alloc (Nat.le_refl _) _) h5l).trans q3); have j4 := (hb3.cell (p := ⟨C5, 4, none⟩) (by first | exact h5l | (simp; omega))).trans (by first | exact q4 | exact (Below.cell ((Below.refl w2.heap.size w2).alloc (Nat.le_refl _) _) h5l).trans q4); try (have hh := newC hb3; have y0 : w3.cell? ⟨w2.heap.size, 0, none⟩ = some (.int .i64 0) := (by rw [Lib.cell_of_heap hh]; rfl); have y1 : w3.cell? ⟨w2.heap.size, 1, none⟩ = some (.int .i64 0) := (by rw [Lib.cell_of_heap hh]; rfl); have y2 : w3.cell? ⟨w2.heap.size, 2, none⟩ = some (.int .i64 0) := (by rw [Lib.cell_of_heap hh]; rfl); have y3 : w3.cell? ⟨w2.heap.size, 3, none⟩ = some (.int .i64 0) := (by rw [Lib.cell_of_heap hh]; rfl); have y4 : w3.cell? ⟨w2.heap.size, 4, none⟩ = some (.bool false) := (by rw [Lib.cell_of_heap hh]; rfl); have y5 : w3.cell? ⟨w2.heap.size, 5, none⟩ = some (.string ⟨#[]⟩) := (by rw [Lib.cell_of_heap hh]; rfl); have f0 := Lib.frozen_of_heap hh 0; have f1 := Lib.frozen_of_heap hh 1; have f2 := Lib.frozen_of_heap hh 2; have f3 := Lib.frozen_of_heap hh 3; have f4 := Lib.frozen_of_heap hh 4; have f5 := Lib.frozen_of_heap hh 5; clear hh)))
          · go_wp2_with fail
            go_meet
            rw [HF.out]
            exact ⟨_, rfl, hb3.size, heap_alloc_new w3 _, (below_undrew hb3).alloc hb3.size _⟩
          · go_wp2_with fail
            go_meet
            rw [HF.out]
            exact ⟨_, rfl, Nat.le_refl _, heap_put (heap_put (heap_put (heap_put (heap_put (heap_put (newC hb3) 0 (.int .i64 (t.kd : Int))) 1 (.int .i64 (t.b : Int))) 2 (.int .i64 (t.e : Int))) 3 (.int .i64 (t.uo : Int))) 4 (.bool false)) 5 (.string ⟨#[]⟩), Below.setCell (Below.setCell (Below.setCell (Below.setCell (Below.setCell (Below.setCell ((((Below.refl w2.heap.size w2).alloc (Nat.le_refl _) _).drew).trans (below_le0 hb3 (by simp))) (p := ⟨w2.heap.size, 0, none⟩) (Nat.le_refl _) _) (p := ⟨w2.heap.size, 1, none⟩) (Nat.le_refl _) _) (p := ⟨w2.heap.size, 2, none⟩) (Nat.le_refl _) _) (p := ⟨w2.heap.size, 3, none⟩) (Nat.le_refl _) _) (p := ⟨w2.heap.size, 4, none⟩) (Nat.le_refl _) _) (p := ⟨w2.heap.size, 5, none⟩) (Nat.le_refl _) _⟩
        · have HF := Lib.hid (show (t.fl == 1) = true by rw [hf]; rfl)
          have hbit : bits BinOp.and IntKind.u8 ((1 : Nat) : Int) 1 = 1 := by decide
          have hbit2 : bits BinOp.and IntKind.u8 1 1 = 1 := by decide
          rw [hf] at q4 ⊢
          go_region_held3 (fun w' => w'.cell? ⟨C5, 0, none⟩ = some (.int .i32 (t.b : Int)) ∧ w'.cell? ⟨C5, 1, none⟩ = some (.int .i32 ((t.e : Int) - t.b)) ∧ w'.cell? ⟨C5, 2, none⟩ = some (.int .u16 (t.uo : Int)) ∧ w'.cell? ⟨C5, 3, none⟩ = some (.int .u8 (t.kd : Int)) ∧ w'.cell? ⟨C5, 4, none⟩ = some (.int .u8 ((1 : Nat) : Int))) (go_keep)
            ((go_at_call 35; refine (E.out _).mono ?_; rintro x w3 ⟨rfl, hb3⟩; have j0 := (hb3.cell (p := ⟨C5, 0, none⟩) (by first | exact h5l | (simp; omega))).trans (by first | exact q0 | exact (Below.cell ((Below.refl w2.heap.size w2).alloc (Nat.le_refl _) _) h5l).trans q0); have j1 := (hb3.cell (p := ⟨C5, 1, none⟩) (by first | exact h5l | (simp; omega))).trans (by first | exact q1 | exact (Below.cell ((Below.refl w2.heap.size w2).alloc (Nat.le_refl _) _) h5l).trans q1); have j2 := (hb3.cell (p := ⟨C5, 2, none⟩) (by first | exact h5l | (simp; omega))).trans (by first | exact q2 | exact (Below.cell ((Below.refl w2.heap.size w2).alloc (Nat.le_refl _) _) h5l).trans q2); have j3 := (hb3.cell (p := ⟨C5, 3, none⟩) (by first | exact h5l | (simp; omega))).trans (by first | exact q3 | exact (Below.cell ((Below.refl w2.heap.size w2).alloc (Nat.le_refl _) _) h5l).trans q3); have j4 := (hb3.cell (p := ⟨C5, 4, none⟩) (by first | exact h5l | (simp; omega))).trans (by first | exact q4 | exact (Below.cell ((Below.refl w2.heap.size w2).alloc (Nat.le_refl _) _) h5l).trans q4); try (have hh := newC hb3; have y0 : w3.cell? ⟨w2.heap.size, 0, none⟩ = some (.int .i64 0) := (by rw [Lib.cell_of_heap hh]; rfl); have y1 : w3.cell? ⟨w2.heap.size, 1, none⟩ = some (.int .i64 0) := (by rw [Lib.cell_of_heap hh]; rfl); have y2 : w3.cell? ⟨w2.heap.size, 2, none⟩ = some (.int .i64 0) := (by rw [Lib.cell_of_heap hh]; rfl); have y3 : w3.cell? ⟨w2.heap.size, 3, none⟩ = some (.int .i64 0) := (by rw [Lib.cell_of_heap hh]; rfl); have y4 : w3.cell? ⟨w2.heap.size, 4, none⟩ = some (.bool false) := (by rw [Lib.cell_of_heap hh]; rfl); have y5 : w3.cell? ⟨w2.heap.size, 5, none⟩ = some (.string ⟨#[]⟩) := (by rw [Lib.cell_of_heap hh]; rfl); have f0 := Lib.frozen_of_heap hh 0; have f1 := Lib.frozen_of_heap hh 1; have f2 := Lib.frozen_of_heap hh 2; have f3 := Lib.frozen_of_heap hh 3; have f4 := Lib.frozen_of_heap hh 4; have f5 := Lib.frozen_of_heap hh 5; clear hh)))
          · go_wp2_with fail
            go_meet
            rw [HF.out]
            exact ⟨_, rfl, hb3.size, heap_alloc_new w3 _, (below_undrew hb3).alloc hb3.size _⟩
          · go_wp2_with fail
            go_meet
            rw [HF.out]
            exact ⟨_, rfl, Nat.le_refl _, heap_put (heap_put (heap_put (heap_put (heap_put (heap_put (newC hb3) 0 (.int .i64 (t.kd : Int))) 1 (.int .i64 (t.b : Int))) 2 (.int .i64 (t.e : Int))) 3 (.int .i64 (t.uo : Int))) 4 (.bool true)) 5 (.string ⟨#[]⟩), Below.setCell (Below.setCell (Below.setCell (Below.setCell (Below.setCell (Below.setCell ((((Below.refl w2.heap.size w2).alloc (Nat.le_refl _) _).drew).trans (below_le0 hb3 (by simp))) (p := ⟨w2.heap.size, 0, none⟩) (Nat.le_refl _) _) (p := ⟨w2.heap.size, 1, none⟩) (Nat.le_refl _) _) (p := ⟨w2.heap.size, 2, none⟩) (Nat.le_refl _) _) (p := ⟨w2.heap.size, 3, none⟩) (Nat.le_refl _) _) (p := ⟨w2.heap.size, 4, none⟩) (Nat.le_refl _) _) (p := ⟨w2.heap.size, 5, none⟩) (Nat.le_refl _) _⟩
        · have HF := Lib.hid (show (t.fl == 1) = false by rw [hf]; rfl)
          have hbit : bits BinOp.and IntKind.u8 ((2 : Nat) : Int) 1 = 0 := by decide
          have hbit2 : bits BinOp.and IntKind.u8 2 1 = 0 := by decide
          rw [hf] at q4 ⊢
          go_region_held3 (fun w' => w'.cell? ⟨C5, 0, none⟩ = some (.int .i32 (t.b : Int)) ∧ w'.cell? ⟨C5, 1, none⟩ = some (.int .i32 ((t.e : Int) - t.b)) ∧ w'.cell? ⟨C5, 2, none⟩ = some (.int .u16 (t.uo : Int)) ∧ w'.cell? ⟨C5, 3, none⟩ = some (.int .u8 (t.kd : Int)) ∧ w'.cell? ⟨C5, 4, none⟩ = some (.int .u8 ((2 : Nat) : Int))) (go_keep)
            ((go_at_call 35; refine (E.out _).mono ?_; rintro x w3 ⟨rfl, hb3⟩; have j0 := (hb3.cell (p := ⟨C5, 0, none⟩) (by first | exact h5l | (simp; omega))).trans (by first | exact q0 | exact (Below.cell ((Below.refl w2.heap.size w2).alloc (Nat.le_refl _) _) h5l).trans q0); have j1 := (hb3.cell (p := ⟨C5, 1, none⟩) (by first | exact h5l | (simp; omega))).trans (by first | exact q1 | exact (Below.cell ((Below.refl w2.heap.size w2).alloc (Nat.le_refl _) _) h5l).trans q1); have j2 := (hb3.cell (p := ⟨C5, 2, none⟩) (by first | exact h5l | (simp; omega))).trans (by first | exact q2 | exact (Below.cell ((Below.refl w2.heap.size w2).alloc (Nat.le_refl _) _) h5l).trans q2); have j3 := (hb3.cell (p := ⟨C5, 3, none⟩) (by first | exact h5l | (simp; omega))).trans (by first | exact q3 | exact (Below.cell ((Below.refl w2.heap.size w2).alloc (Nat.le_refl _) _) h5l).trans q3); have j4 := (hb3.cell (p := ⟨C5, 4, none⟩) (by first | exact h5l | (simp; omega))).trans (by first | exact q4 | exact (Below.cell ((Below.refl w2.heap.size w2).alloc (Nat.le_refl _) _) h5l).trans q4); try (have hh := newC hb3; have y0 : w3.cell? ⟨w2.heap.size, 0, none⟩ = some (.int .i64 0) := (by rw [Lib.cell_of_heap hh]; rfl); have y1 : w3.cell? ⟨w2.heap.size, 1, none⟩ = some (.int .i64 0) := (by rw [Lib.cell_of_heap hh]; rfl); have y2 : w3.cell? ⟨w2.heap.size, 2, none⟩ = some (.int .i64 0) := (by rw [Lib.cell_of_heap hh]; rfl); have y3 : w3.cell? ⟨w2.heap.size, 3, none⟩ = some (.int .i64 0) := (by rw [Lib.cell_of_heap hh]; rfl); have y4 : w3.cell? ⟨w2.heap.size, 4, none⟩ = some (.bool false) := (by rw [Lib.cell_of_heap hh]; rfl); have y5 : w3.cell? ⟨w2.heap.size, 5, none⟩ = some (.string ⟨#[]⟩) := (by rw [Lib.cell_of_heap hh]; rfl); have f0 := Lib.frozen_of_heap hh 0; have f1 := Lib.frozen_of_heap hh 1; have f2 := Lib.frozen_of_heap hh 2; have f3 := Lib.frozen_of_heap hh 3; have f4 := Lib.frozen_of_heap hh 4; have f5 := Lib.frozen_of_heap hh 5; clear hh)))
          · go_wp2_with fail
            go_meet
            rw [HF.out]
            exact ⟨_, rfl, hb3.size, heap_alloc_new w3 _, (below_undrew hb3).alloc hb3.size _⟩
          · go_wp2_with fail
            go_meet
            rw [HF.out]
            exact ⟨_, rfl, Nat.le_refl _, heap_put (heap_put (heap_put (heap_put (heap_put (heap_put (newC hb3) 0 (.int .i64 (t.kd : Int))) 1 (.int .i64 (t.b : Int))) 2 (.int .i64 (t.e : Int))) 3 (.int .i64 (t.uo : Int))) 4 (.bool false)) 5 (.string ⟨#[]⟩), Below.setCell (Below.setCell (Below.setCell (Below.setCell (Below.setCell (Below.setCell ((((Below.refl w2.heap.size w2).alloc (Nat.le_refl _) _).drew).trans (below_le0 hb3 (by simp))) (p := ⟨w2.heap.size, 0, none⟩) (Nat.le_refl _) _) (p := ⟨w2.heap.size, 1, none⟩) (Nat.le_refl _) _) (p := ⟨w2.heap.size, 2, none⟩) (Nat.le_refl _) _) (p := ⟨w2.heap.size, 3, none⟩) (Nat.le_refl _) _) (p := ⟨w2.heap.size, 4, none⟩) (Nat.le_refl _) _) (p := ⟨w2.heap.size, 5, none⟩) (Nat.le_refl _) _⟩
      case rest =>
        obtain ⟨r, rfl, hr, hc, hbw⟩ := hcut
        have HC := Lib.hid hc
        have BW := Lib.hid hbw
        have hrl : r < wc.heap.size := (Array.getElem?_eq_some_iff.1 hc).1
        have BW1 := Lib.hid (B2.out.trans (below_le0 BW.out B2.out.size))
        have p0 : wc.cell? ⟨C5, 0, none⟩ = some (.int .i32 (t.b : Int)) := (BW.out.cell (p := ⟨C5, 0, none⟩) h5l).trans q0
        have p1 : wc.cell? ⟨C5, 1, none⟩ = some (.int .i32 ((t.e : Int) - t.b)) := (BW.out.cell (p := ⟨C5, 1, none⟩) h5l).trans q1
        have p2 : wc.cell? ⟨C5, 2, none⟩ = some (.int .u16 (t.uo : Int)) := (BW.out.cell (p := ⟨C5, 2, none⟩) h5l).trans q2
        have p3 : wc.cell? ⟨C5, 3, none⟩ = some (.int .u8 (t.kd : Int)) := (BW.out.cell (p := ⟨C5, 3, none⟩) h5l).trans q3
        have p4 : wc.cell? ⟨C5, 4, none⟩ = some (.int .u8 (t.fl : Int)) := (BW.out.cell (p := ⟨C5, 4, none⟩) h5l).trans q4
        have D := Lib.hid (decTq s t wc (Utf8Tabs_below T.out (B1.out.trans (below_le0 BW1.out B1.out.size))) (by omega) TOK.out)
        obtain ⟨txt, htxt⟩ : ∃ x : ByteArray, (⟨(decText t.kd ((s.extract t.b t.e).data.toList)).toArray⟩ : ByteArray) = x := ⟨_, rfl⟩
        rw [htxt] at D
        have HTXT := Lib.hid htxt
        clear hc hbw htxt q0 q1 q2 q3 q4
        go_wp2_with fail
        refine (D.out).mono ?_
        rintro e w4 ⟨rfl, hb4⟩
        have HC4 := Lib.hid ((hb4.block r hrl).trans HC.out)
        have B4 := Lib.hid (BW.out.trans (below_le0 hb4 BW.out.size))
        have n5 : w4.cell? ⟨r, 5, none⟩ = some (.string ⟨#[]⟩) := (by rw [Lib.cell_of_heap HC4.out]; rfl)
        have z5 := Lib.frozen_of_heap HC4.out 5
        clear hb4 p0 p1 p2 p3 p4
        go_upto_region 7 with fail
        obtain ⟨w5, hw5⟩ : ∃ x, w4.setCell ⟨r, 5, none⟩ (.string txt) = x := ⟨_, rfl⟩
        have HC5 := Lib.hid (show w5.heap[r]? = some (.cells #[.int .i64 (t.kd : Int), .int .i64 (t.b : Int), .int .i64 (t.e : Int), .int .i64 (t.uo : Int), .bool (t.fl == 1), .string txt] 36 (0, 0)) by rw [← hw5]; exact heap_put HC4.out 5 (.string txt))
        have B5 := Lib.hid (show Below w2.heap.size w2 w5 by rw [← hw5]; exact B4.out.setCell (p := ⟨r, 5, none⟩) hr _)
        have B51 := Lib.hid (B2.out.trans (below_le0 B5.out B2.out.size))
        have OV5 := Lib.hid (rowFr (b := 0) OV2.out (Fr.of B5.out) (by omega))
        have hw1s : w1.heap.size ≤ w5.heap.size := B51.out.size
        rw [hw5]
        have m0 : w5.cell? ⟨r, 0, none⟩ = some (.int .i64 (t.kd : Int)) := (by rw [Lib.cell_of_heap HC5.out]; rfl)
        have m1 : w5.cell? ⟨r, 1, none⟩ = some (.int .i64 (t.b : Int)) := (by rw [Lib.cell_of_heap HC5.out]; rfl)
        have m2 : w5.cell? ⟨r, 2, none⟩ = some (.int .i64 (t.e : Int)) := (by rw [Lib.cell_of_heap HC5.out]; rfl)
        have m3 : w5.cell? ⟨r, 3, none⟩ = some (.int .i64 (t.uo : Int)) := (by rw [Lib.cell_of_heap HC5.out]; rfl)
        have m4 : w5.cell? ⟨r, 4, none⟩ = some (.bool (t.fl == 1)) := (by rw [Lib.cell_of_heap HC5.out]; rfl)
        have m5 : w5.cell? ⟨r, 5, none⟩ = some (.string txt) := (by rw [Lib.cell_of_heap HC5.out]; rfl)
        clear hw5 n5 z5
        have wi : IntKind.i64.wrap ((i : Int) + 1) = (i : Int) + 1 := IntWalk.i64_in _ (by omega)
        go_wp2_with (at_builtin; refine wpList_append_lies _ rfl _ _ 33 rfl w1.heap.size 36 i0 _ 6 56 Tryz.underlying33 hi hz0 hz1 hz2 rfl (by decide) _ i ((toks.take i).flatMap (tiC s)) rfl (OV5.out.alloc _) ⟨w5.heap.size, 0, none⟩ 1 1 [.int .i64 (t.kd : Int), .int .i64 (t.b : Int), .int .i64 (t.e : Int), .int .i64 (t.uo : Int), .bool (t.fl == 1), .string txt] rfl rfl (World.news_of_block (heap_alloc_new w5 _)) (fun u hu => by simp at hu; rcases hu with rfl | rfl | rfl | rfl | rfl | rfl <;> rfl) (by decide) (by unfold maxLen; omega) (by omega) (by simp; omega) (w5.heap.size + 1) (by simp) ?_; intro g6 cap w6 hown6 hgrow hat hlt6)
        have B6 := Lib.hid ((B51.out.alloc B51.out.size _).grown hgrow (by simp; omega) (fun x hx => (OV5.out.lt x hx).1))
        have HTI := Lib.hid (show tiC s t = [.int .i64 (t.kd : Int), .int .i64 (t.b : Int), .int .i64 (t.e : Int), .int .i64 (t.uo : Int), .bool (t.fl == 1), .string txt] by unfold tiC; rw [HTXT.out])
        have OWN6 := Lib.hid hown6
        clear hown6 hgrow hat hlt6
        go_roundw
        case rel =>
          refine ⟨i + 1, rfl, by omega, ?_, B6.out⟩
          rw [List.take_add_one, TK.out, Option.toList_some, tiC_append, HTI.out]
          exact OWN6.out
        case measure =>
          show toks.length - ((i : Int) + 1).toNat < toks.length - (i : Int).toNat
          omega
    · have g1 : decide ((i : Int) < (toks.length : Int)) = false := decide_eq_false (by omega)
      obtain rfl : i = toks.length := by omega
      go_wp2_with fail
      refine bodyPost_ret (results_tmp rfl _ _ _) rfl ?_
      refine ⟨toks, cs, _, rfl, RUN.out, ?_, B1.out.trans (below_le0 HB.out B1.out.size)⟩
      have h1 := rowBase (base2 := w.heap.size) HOV.out B1.out.size
      rwa [List.take_length] at h1
end Go.Proofs.YtmgkccnfhkcncaaGreatDoor

namespace Go.Proofs.YtmgkccnfhkcncaaGreatDoor
open Go.RowKit
attribute [local go_sem ↓] Go.wp_at_zero Go.wp_at_succ

theorem ti_cells {s : ByteArray} {w : World} {base : Nat} {v : Value} {n : Nat} {toks : List Tq} {e : TypeId} (h : w.ownsRow base e 6 v n (toks.flatMap (tiC s))) {g : Nat} (hg : v.ownBlock = some g) {i : Nat} {t : Tq} (ht : toks[i]? = some t) (j : Nat) (u : Value) (hj : (tiC s t)[j]? = some u) :
    w.cell? ⟨g, i * 6 + j, none⟩ = some u := by
  have hx : (toks.flatMap (tiC s))[i * 6 + j]? = some u := by
    clear h hg
    induction toks generalizing i with
    | nil => simp at ht
    | cons a r ih =>
      rw [List.flatMap_cons]
      cases i with
      | zero =>
        simp only [List.getElem?_cons_zero, Option.some.injEq] at ht
        subst ht
        have : j < (tiC s a).length := (List.getElem?_eq_some_iff.1 hj).1
        rw [Nat.zero_mul, Nat.zero_add, List.getElem?_append_left this]
        exact hj
      | succ i =>
        simp only [List.getElem?_cons_succ] at ht
        have h5 : (tiC s a).length = 6 := rfl
        rw [List.getElem?_append_right (by rw [h5]; omega), h5, show (i + 1) * 6 + j - 6 = i * 6 + j by omega]
        exact ih ht
  have h2 := h.cells hg _ _ hx
  rwa [show ((⟨g, 0, none⟩ : Addr).add (i * 6 + j)) = ⟨g, i * 6 + j, none⟩ by unfold Addr.add; split <;> simp_all] at h2


theorem implStartsG (w : World) : Calls Tryz.prog 31 #[.int .i32 97] w fun e w' => e = .returned (.bool true) ∧ w = w' := by
  have N := Lib.hid (fun w => isNameStart 97 w)
  rw [show nsB 97 = true by decide] at N
  go_enter Tryz.func31, Tryz.ntmps31
  go_wp2_with fail
  refine (N.out _).mono ?_
  rintro e w' ⟨rfl, hww⟩
  first | (obtain rfl : _ = w' := hww) | (obtain rfl : _ = w' := hww.symm)
  go_wp2_with fail
  go_ret
  exact ⟨rfl, rfl⟩
set_option maxHeartbeats 4000000 in
set_option maxRecDepth 1000000 in
theorem wakesG (w : World) (hT : Lib.Utf8Tabs 0 1 w) :
    Calls Tryz.prog 13 #[] w fun e w' => e = .returned (.bool true) ∧ Below w.heap.size w w' := by
  have TI := Lib.hid (tokensG wakeS w hT (by decide) (by decide +kernel))
  have SI := Lib.hid (fun w => implStartsG w)
  clear hT
  go_enter Tryz.func13, Tryz.ntmps13
  go_wp2_with fail
  refine (TI.out).mono ?_
  rintro e w1 ⟨toks, cs, tv, rfl, hrun, hown, hb1⟩
  obtain ⟨t0, t1, t2, rfl, k0, b0, e0, k1, k2⟩ := wake_run hrun
  obtain ⟨g, oc, rfl, hg⟩ : ∃ g oc, tv = .slice (some ⟨g, 0, none⟩) 3 oc ∧ w.heap.size ≤ g := by
    rcases hown.2 with ⟨h1, h2⟩ | ⟨g, cap, cur, h1, h2, h3, -⟩
    · cases h2
    · exact ⟨g, _, h1, h2⟩
  have C := Lib.hid (fun i t ht j u hj => ti_cells (i := i) (t := t) hown rfl ht j u hj)
  have ed : decText 29 ((wakeS.extract 0 1).data.toList) = [97] := by decide +kernel
  have d0 : w1.cell? ⟨g, 0, none⟩ = some (.int .i64 29) := C.out 0 t0 rfl 0 _ (by unfold tiC; rw [k0]; rfl)
  have d5 : w1.cell? ⟨g, 5, none⟩ = some (.string ⟨#[97]⟩) := C.out 0 t0 rfl 5 _ (by unfold tiC; rw [k0, b0, e0, ed]; rfl)
  have d6 : w1.cell? ⟨g, 6, none⟩ = some (.int .i64 9) := C.out 1 t1 rfl 0 _ (by unfold tiC; rw [k1]; rfl)
  have d12 : w1.cell? ⟨g, 12, none⟩ = some (.int .i64 30) := C.out 2 t2 rfl 0 _ (by unfold tiC; rw [k2]; rfl)
  clear hown hrun k0 b0 e0 k1 k2 ed
  go_wp2_with fail
  refine (SI.out _).mono ?_
  rintro e w' ⟨rfl, rfl⟩
  go_wp2_with fail
  go_ret
  exact ⟨rfl, hb1⟩
end Go.Proofs.YtmgkccnfhkcncaaGreatDoor

namespace Go.Proofs.YtmgkccnfhkcncaaGreatDoor
open Go.RowKit
attribute [local go_sem ↓] Go.wp_at_zero Go.wp_at_succ

/-- A comment as impl hands it out. -/
def pcC (p : Nat × Nat) : List Value := [.int .i64 (p.1 : Int), .int .i64 (p.2 : Int)]
theorem pcC_append (a : List (Nat × Nat)) (p : Nat × Nat) : (a ++ [p]).flatMap pcC = a.flatMap pcC ++ pcC p := by simp
theorem infoIP : (Tryz.prog.info? 32).map (fun i => (i.zero, i.size, i.bytes)) = some (some (.agg #[.int .i64 0, .int .i64 0]), 2, 16) := by kernel_rfl
/-- The cells of the i-th of a row of pairs. -/
theorem two_cells {w : World} {base : Nat} {v : Value} {n : Nat} {f : Nat × Nat → List Value} (hf : ∀ p, (f p).length = 2) {cs : List (Nat × Nat)} {e : TypeId} (h : w.ownsRow base e 2 v n (cs.flatMap f)) {g : Nat} (hg : v.ownBlock = some g) {i : Nat} {t : Nat × Nat} (ht : cs[i]? = some t) (j : Nat) (u : Value) (hj : (f t)[j]? = some u) :
    w.cell? ⟨g, i * 2 + j, none⟩ = some u := by
  have hx : (cs.flatMap f)[i * 2 + j]? = some u := by
    clear h hg
    induction cs generalizing i with
    | nil => simp at ht
    | cons a r ih =>
      rw [List.flatMap_cons]
      cases i with
      | zero =>
        simp only [List.getElem?_cons_zero, Option.some.injEq] at ht
        subst ht
        have : j < (f a).length := (List.getElem?_eq_some_iff.1 hj).1
        rw [Nat.zero_mul, Nat.zero_add, List.getElem?_append_left this]
        exact hj
      | succ i =>
        simp only [List.getElem?_cons_succ] at ht
        rw [List.getElem?_append_right (by rw [hf]; omega), hf, show (i + 1) * 2 + j - 2 = i * 2 + j by omega]
        exact ih ht
  have h2 := h.cells hg _ _ hx
  rwa [show ((⟨g, 0, none⟩ : Addr).add (i * 2 + j)) = ⟨g, i * 2 + j, none⟩ by unfold Addr.add; split <;> simp_all] at h2
theorem pc_cells {w : World} {base : Nat} {v : Value} {n : Nat} {cs : List (Nat × Nat)} {e : TypeId} (h : w.ownsRow base e 2 v n (cs.flatMap pcC)) {g : Nat} (hg : v.ownBlock = some g) {i : Nat} {t : Nat × Nat} (ht : cs[i]? = some t) (j : Nat) (u : Value) (hj : (pcC t)[j]? = some u) :
    w.cell? ⟨g, i * 2 + j, none⟩ = some u := two_cells (fun _ => rfl) h hg ht j u hj
/-- The loop of Comments: i are done. -/
def JRel (cs : List (Nat × Nat)) (w1 : World) (ov iv : Value) (w : World) : Prop :=
  ∃ i : Nat, iv = .int .i64 (i : Int) ∧ i ≤ cs.length ∧ w.ownsRow w1.heap.size 32 2 ov i ((cs.take i).flatMap pcC) ∧ Below w1.heap.size w1 w
set_option maxHeartbeats 8000000 in
set_option maxRecDepth 1000000 in
theorem commentsG (s : ByteArray) (w : World) (hT : Lib.Utf8Tabs 0 1 w) (hs : s.size ≤ 1048576) (hb : hdB s.data.toList ≠ 65279) :
    Calls Tryz.prog 15 #[.string s] w fun e w' => ∃ toks cs pv, e = .returned pv ∧ RunB s toks cs s.data.toList ∧ cs.length ≤ s.size ∧ w'.ownsRow w.heap.size 32 2 pv cs.length (cs.flatMap pcC) ∧ Below w.heap.size w w' := by
  have T := Lib.hid hT
  have TI := Lib.hid (fun w hT => tokG s w hT hs hb)
  clear hT hb
  go_enter Tryz.func15, Tryz.ntmps15
  go_wp2_with fail
  refine (TI.out _ T.out).mono ?_
  rintro e w1 ⟨toks, cs, tv, cv, lv, t1, x1, y1, z1, rfl, hrun, hcl, hown, hcom, hb1⟩
  have RUN := Lib.hid hrun
  have CS := Lib.hid (run_cs hrun)
  obtain ⟨oa, oc, rfl⟩ := rowForm hcom
  have OWN := Lib.hid hcom
  have B1 := Lib.hid hb1
  clear hrun hown hcom hb1
  have FLD : ∀ wx : World, (Instr.field 59 (.agg #[tv, .slice oa cs.length oc, lv, .string t1, .int .i32 x1, .int .i32 y1, .int .i32 z1]) 1).run Tryz.prog wx = .ok (.slice oa cs.length oc) wx := fun _ => by kernel_rfl
  obtain ⟨i0, hi, hz0, hz1, hz2⟩ := parts_of infoIP
  have START := Lib.hid (show JRel cs w1 (.slice none 0 0) (.int .i64 ((0 : Nat) : Int)) w1 from ⟨0, rfl, Nat.zero_le _, World.ownsRow_nil _ _ _ _, Below.refl _ _⟩)
  go_wp2_with fail
  go_loopw [3, 10] (fun ov iv wr => JRel cs w1 ov iv wr) (fun _ iv _ => cs.length - (numOf (some iv)).toNat)
  case atStart => exact START.out
  case round =>
    obtain ⟨ov, rfl⟩ : ∃ y : Value, y = u3 := ⟨_, rfl⟩
    obtain ⟨i, rfl, hil, hov, hB⟩ := hrel
    clear START
    have HOV := Lib.hid hov
    have HB := Lib.hid hB
    clear hov hB
    by_cases hi2 : i < cs.length
    · have g1 : decide ((i : Int) < (cs.length : Int)) = true := decide_eq_true (by omega)
      obtain ⟨g, rfl, hgb, hgl⟩ : ∃ g, oa = some ⟨g, 0, none⟩ ∧ w.heap.size ≤ g ∧ g < w1.heap.size := by
        rcases OWN.out.2 with ⟨h1, h2⟩ | ⟨g, cap, cur, h1, h2, h3, -⟩
        · omega
        · injection h1 with h1 _ _
          exact ⟨g, h1, h2, (Array.getElem?_eq_some_iff.1 h3).1⟩
      obtain ⟨⟨a, b⟩, hp⟩ : ∃ t, cs[i]? = some t := ⟨_, List.getElem?_eq_getElem hi2⟩
      have TK := Lib.hid hp
      obtain ⟨hab, hbz⟩ := CS.out _ (List.mem_of_getElem? hp)
      dsimp only at hab hbz
      have C := Lib.hid (fun j u hj => (HB.out.cell (p := ⟨g, i * 2 + j, none⟩) hgl).trans (two_cells (f := fun p => [.int .i32 (p.1 : Int), .int .i32 ((p.2 : Int) - p.1)]) (fun _ => rfl) OWN.out rfl hp j u hj))
      have i1 : (0 : Int) ≤ (i : Int) := by omega
      have i2 : (i : Int) < (cs.length : Int) := by omega
      have i3 : ((i : Int)).toNat = i := by omega
      have d0 : wr.cell? ⟨g, i * 2, none⟩ = some (.int .i32 (a : Int)) := C.out 0 _ rfl
      have d1 : wr.cell? ⟨g, i * 2 + 1, none⟩ = some (.int .i32 ((b : Int) - a)) := C.out 1 _ rfl
      clear hp
      go_upto_region 5 with fail
      obtain ⟨C5, hC5⟩ : ∃ x, wr.heap.size = x := ⟨_, rfl⟩
      obtain ⟨w2, hw2⟩ : ∃ x, wr.alloc (.cells #[.int .i32 (a : Int), .int .i32 ((b : Int) - a)] 55) = x := ⟨_, rfl⟩
      have K5 := Lib.hid (show w2.heap[C5]? = some (.cells #[.int .i32 (a : Int), .int .i32 ((b : Int) - a)] 55 (0, 0)) by rw [← hw2, ← hC5]; exact heap_alloc_new wr _)
      have B2 := Lib.hid (show Below w1.heap.size w1 w2 by rw [← hw2]; exact HB.out.alloc HB.out.size _)
      have OV2 := Lib.hid (show w2.ownsRow w1.heap.size 32 2 _ i ((cs.take i).flatMap pcC) by rw [← hw2]; exact HOV.out.alloc _)
      have hC5b := Lib.hid (show w1.heap.size ≤ C5 by rw [← hC5]; exact HB.out.size)
      have LTC := Lib.hid (show ∀ k, ov.ownBlock = some k → k < C5 from fun k hk => by rw [← hC5]; exact (HOV.out.lt k hk).2)
      rw [hC5, hw2]
      have h5l : C5 < w2.heap.size := (Array.getElem?_eq_some_iff.1 K5.out).1
      have q0 : w2.cell? ⟨C5, 0, none⟩ = some (.int .i32 (a : Int)) := by rw [Lib.cell_of_heap K5.out]; rfl
      have q1 : w2.cell? ⟨C5, 1, none⟩ = some (.int .i32 ((b : Int) - a)) := by rw [Lib.cell_of_heap K5.out]; rfl
      clear hw2 hC5 d0 d1
      have E := Lib.hid (fun w => rangeEndI a b w (by omega) (by omega))
      have b0 : (0 : Int) ≤ (a : Int) := by omega
      have b1 : (a : Int) ≤ 1073741824 := by omega
      have b2 : (0 : Int) ≤ (b : Int) := by omega
      have b3 : (b : Int) ≤ 1073741824 := by omega
      have wa : IntKind.i64.wrap (a : Int) = (a : Int) := wrap_i64n (by omega)
      have wb : IntKind.i64.wrap (b : Int) = (b : Int) := wrap_i64n (by omega)
      have wi : IntKind.i64.wrap ((i : Int) + 1) = (i : Int) + 1 := IntWalk.i64_in _ (by omega)
      have hw12 := B2.out.size
      go_region_held3 (fun w' => w'.cell? ⟨C5, 0, none⟩ = some (.int .i32 (a : Int)) ∧ w'.cell? ⟨C5, 1, none⟩ = some (.int .i32 ((b : Int) - a))) (go_keep)
        (first
          | (go_at_call 35; refine (E.out _).mono ?_; rintro x w3 ⟨rfl, hb3⟩; have j0 := (hb3.cell (p := ⟨C5, 0, none⟩) h5l).trans q0; have j1 := (hb3.cell (p := ⟨C5, 1, none⟩) h5l).trans q1; have B3 := Lib.hid (B2.out.trans (below_le0 (below_undrew hb3) B2.out.size)); have OV3 := Lib.hid (rowFr (b := 0) OV2.out (Fr.of (below_undrew hb3)) (by omega)); have s3 := (below_undrew hb3).size; clear hb3)
          | (refine step_append_lies _ (by rfl) (.tmp 14) (.tmp 23) 28 (by rfl) w1.heap.size 32 i0 _ 2 16 Tryz.underlying28 hi hz0 hz1 hz2 rfl (by decide) _ i ((cs.take i).flatMap pcC) (by rfl) (OV3.out.alloc _) ⟨_, 0, none⟩ 1 1 [.int .i64 (a : Int), .int .i64 (b : Int)] (by rfl) (by rfl) (news_at rfl _ _) (fun u hu => by simp at hu; rcases hu with rfl | rfl <;> rfl) (by decide) (by unfold maxLen; omega) (by omega) (by simp; omega) (w3.heap.size + 1) (by simp) ?_; intro g6 cap w6 hown6 hgrow hat hlt6; have k0 := (hgrow.cell_far ⟨C5, 0, none⟩ (by simp; omega) (fun e => Nat.lt_irrefl C5 (LTC.out C5 e.symm))).trans ((Below.cell ((Below.refl w3.heap.size w3).alloc (Nat.le_refl _) _) (p := ⟨C5, 0, none⟩) (by show C5 < _; omega)).trans j0); have k1 := (hgrow.cell_far ⟨C5, 1, none⟩ (by simp; omega) (fun e => Nat.lt_irrefl C5 (LTC.out C5 e.symm))).trans ((Below.cell ((Below.refl w3.heap.size w3).alloc (Nat.le_refl _) _) (p := ⟨C5, 1, none⟩) (by show C5 < _; omega)).trans j1)))
      have B6 := Lib.hid ((B3.out.alloc B3.out.size _).grown hgrow (by have := B3.out.size; simp; omega) (fun x hx => (HOV.out.lt x hx).1))
      have OWN6 := Lib.hid hown6
      clear hown6 hgrow hat hlt6 k0 k1
      go_wp2_with fail
      refine ⟨⟨i + 1, rfl, by omega, ?_, B6.out⟩, ?_⟩
      · rw [List.take_add_one, TK.out, Option.toList_some, pcC_append]
        exact OWN6.out
      · show cs.length - ((i : Int) + 1).toNat < cs.length - (i : Int).toNat
        omega
    · have g1 : decide ((i : Int) < (cs.length : Int)) = false := decide_eq_false (by omega)
      obtain rfl : i = cs.length := by omega
      go_wp2_with fail
      refine bodyPost_ret (results_tmp rfl _ _ _) rfl ?_
      refine ⟨toks, cs, _, rfl, RUN.out, hcl, ?_, B1.out.trans (below_le0 HB.out B1.out.size)⟩
      have h1 := rowBase (base2 := w.heap.size) HOV.out B1.out.size
      rwa [List.take_length] at h1
end Go.Proofs.YtmgkccnfhkcncaaGreatDoor
