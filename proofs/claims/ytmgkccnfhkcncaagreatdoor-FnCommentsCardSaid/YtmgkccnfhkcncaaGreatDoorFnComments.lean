/-
  FnComments: the comments of every plain text of at most 32768 bytes that is not left open are those of the standard. No condition.
-/
import Derived.Test.YtmgkccnfhkcncaaGreatDoorImpG
import Derived.Test.YtmgkccnfhkcncaaGreatDoorSTk
import Derived.Deep.QuietTactic
import Derived.BigQuiet
import Derived.Deep.DeepCutAuto
import Derived.Deep.CutBlock
namespace Go.Proofs.YtmgkccnfhkcncaaGreatDoor.fnComments
open Go.RowKit

/-- What whole says. -/
def WholeP (s : ByteArray) (b : Bool) : Prop := b = true → s.size ≤ 32768 ∧ ∃ l acc cacc, s.data.toList = encs l ∧ (∀ c ∈ l, Cp c) ∧ l.head? ≠ some 65279 ∧ TokR acc l cacc false
def WholeE (s : ByteArray) (w : World) (e : Ending) (w' : World) : Prop := ∃ b, e = .returned (.bool b) ∧ WholeP s b ∧ Below w.heap.size w w'
set_option maxHeartbeats 8000000 in
set_option maxRecDepth 100000 in
theorem wholeL (s : ByteArray) (w : World) (hz : s.size ≤ 4294967296) :
    Calls Tryz.prog 12 #[.string s] w fun e w' => WholeE s w e w' := by
  by_cases h2 : s.size ≤ 32768
  · obtain ⟨b, hb⟩ : ∃ b, plainL s.data.toList = b := ⟨_, rfl⟩
    have I := Lib.hid (fun (w : World) => by
      have h := isPlain s w hz
      rw [hb] at h
      exact h)
    cases b
    · clear hb
      go_enter Tryz.func12, Tryz.ntmps12
      go_wp2_with fail
      refine (I.out _).mono ?_
      rintro e w' ⟨rfl, rfl⟩
      go_wp2_with fail
      go_ret
      exact ⟨false, rfl, fun h => (by cases h), Below.refl _ _⟩
    · obtain ⟨l, hd, hl, hm⟩ := plainL_cps hb
      have T := Lib.hid (fun w => tokensL s l w hd hl (by omega))
      have HD := Lib.hid hd
      have HCP := Lib.hid hl
      have HM := Lib.hid hm
      clear hb hd hl hm
      go_enter Tryz.func12, Tryz.ntmps12
      go_wp2_with fail
      refine (I.out _).mono ?_
      rintro e w' ⟨rfl, rfl⟩
      go_wp2_with fail
      refine (T.out _).mono ?_
      rintro e w1 ⟨ov, cv, op, acc, cacc, rfl, hT, hov, hcv, hB⟩
      have HT := Lib.hid hT
      have HB := Lib.hid hB
      obtain ⟨a1, k1, rfl⟩ := row_form hov
      obtain ⟨a2, k2, rfl⟩ := row_form hcv
      clear hT hov hcv hB
      go_wp2_with fail
      go_ret
      exact ⟨!op, rfl, fun h => ⟨h2, l, acc, cacc, HD.out, HCP.out, HM.out, by have h3 := HT.out; cases op; exact h3; cases h⟩, HB.out⟩
  · go_enter Tryz.func12, Tryz.ntmps12
    go_wp2_with fail
    go_ret
    exact ⟨false, rfl, fun h => (by cases h), Below.refl _ _⟩

theorem first_ne (l : List Nat) (hl : ∀ c ∈ l, Cp c) (hm : l.head? ≠ some 65279) : hdB (encs l) ≠ 65279 := by
  rw [hdB_encs l hl]
  cases l with
  | nil => rw [cpAt_nil]; omega
  | cons c t =>
    rw [cpAt_zero_cons]
    intro h
    have : c = 65279 := by omega
    subst this
    exact hm rfl
theorem absC_len (z : Nat) (l : List (Nat × Nat)) : (absC z l).length = l.length := by unfold absC; rw [List.length_map]
theorem absC_get {z : Nat} {l : List (Nat × Nat)} {i : Nat} {p : Nat × Nat} (h : l[i]? = some p) : (absC z l)[i]? = some (z - p.1, z - p.2) := by unfold absC; rw [List.getElem?_map, h]; rfl
theorem below_drewN {B : Nat} {w w' : World} (h : Below B w w') (n : Nat) : Below B w (w'.drewN n) := ⟨h.os, h.tape, h.output, h.size, h.block⟩
theorem row_of {w : World} {base : Nat} {e : TypeId} {size : Nat} {oa : Option Addr} {n c : Nat} {xs : List Value} (h : w.ownsRow base e size (.slice oa n c) n xs) (hn : 0 < n) : ∃ g, oa = some ⟨g, 0, none⟩ ∧ base ≤ g ∧ g < w.heap.size := by
  rcases h.2 with ⟨h1, h2⟩ | ⟨g, cap, cur, h1, h2, h3, -⟩
  · omega
  · injection h1 with h1 _ _
    exact ⟨g, h1, h2, (Array.getElem?_eq_some_iff.1 h3).1⟩
/-- The loop over the comments: i are alike. -/
def CR (n : Nat) (w3 : World) (vi : Value) (w : World) : Prop := ∃ i : Nat, vi = .int .i64 (i : Int) ∧ i ≤ n ∧ Below w3.heap.size w3 w
set_option maxHeartbeats 8000000 in
set_option maxRecDepth 1000000 in
theorem walk (a0 : ByteArray) (w : World) (w0 : a0.size ≤ maxLen) (hT : Lib.Utf8Tabs 0 1 w) :
    Calls Tryz.prog 3 #[.string a0] w fun e w' => e = .returned (.bool true) ∧ Below w.heap.size w w' := by
  unfold maxLen at w0
  have T := Lib.hid hT
  have WK := Lib.hid (fun w h => wakesG w h)
  clear hT
  by_cases h1 : a0.size ≤ 2147483647
  · have WH := Lib.hid (fun w => wholeL a0 w (by omega))
    go_enter Tryz.func3, Tryz.ntmps3
    go_wp2_with fail
    refine (WH.out _).mono ?_
    rintro e w1 ⟨b, rfl, hP, hb1⟩
    have B1 := Lib.hid hb1
    clear hb1
    cases b
    · clear hP
      go_wp2_with fail
      refine (WK.out _ (Utf8Tabs_below T.out B1.out)).mono ?_
      rintro e w2 ⟨rfl, hb2⟩
      have B2 := Lib.hid (B1.out.trans (below_le0 hb2 B1.out.size))
      clear hb2
      go_wp2_with fail
      go_ret
      exact ⟨rfl, B2.out⟩
    · obtain ⟨hsz, l, acc, cacc, hd, hl, hm, hR⟩ := hP rfl
      have TK := Lib.hid (fun w => tokensL a0 l w hd hl (by omega))
      have CI := Lib.hid (fun w hT => commentsG a0 w hT (by omega) (by rw [hd]; exact first_ne l hl hm))
      have HD := Lib.hid hd
      have HL := Lib.hid hl
      have HR := Lib.hid hR
      clear hd hl hm hR hP
      go_wp2_with fail
      refine (TK.out _).mono ?_
      rintro e w2 ⟨ov, cv, op, acc2, cacc2, rfl, hT2, hov, hcv, hb2⟩
      obtain ⟨rfl, rfl, rfl⟩ := tokR_one _ _ _ _ _ _ _ HR.out hT2
      obtain ⟨na, hna⟩ : ∃ n, acc.length = n := ⟨_, rfl⟩
      rw [hna] at hov
      obtain ⟨a1, k1, rfl⟩ := row_form hov
      obtain ⟨nc, hnc⟩ : ∃ n, cacc.length = n := ⟨_, rfl⟩
      rw [hnc] at hcv
      obtain ⟨a2, k2, rfl⟩ := row_form hcv
      have SP := Lib.hid hcv
      have NC := Lib.hid hnc
      have B2 := Lib.hid (B1.out.trans (below_le0 hb2 B1.out.size))
      clear hT2 hov hcv hb2 hna hnc
      go_wp2_with fail
      refine (CI.out _ (Utf8Tabs_below T.out B2.out)).mono ?_
      rintro e w3 ⟨toks, cs, pv, rfl, hrun, hcl, hcom, hb3⟩
      obtain rfl : cs = absC a0.size cacc := (run_all _ _ _ _ hrun).trans (by rw [HD.out, tokR_all _ _ _ HL.out HR.out])
      rw [absC_len, NC.out] at hcom
      rw [absC_len, NC.out] at hcl
      obtain ⟨ca, cc, rfl⟩ := rowForm hcom
      have COM := Lib.hid hcom
      have SP3 := Lib.hid (row_own SP.out (fun k hk => hb3.block k (own_base SP.out hk).2))
      have B3 := Lib.hid (B2.out.trans (below_le0 hb3 B2.out.size))
      have f0 : ((nc : Int) != (nc : Int)) = false := by simp
      have START := Lib.hid (show CR nc w3 (.int .i64 ((0 : Nat) : Int)) w3 from ⟨0, rfl, Nat.zero_le _, Below.refl _ _⟩)
      clear hrun hcom hb3
      go_wp2_with fail
      go_loopw [31] (fun vi wr => CR nc w3 vi wr) (fun vi _ => nc - (numOf (some vi)).toNat)
      case atStart => exact START.out
      case round =>
        obtain ⟨i, rfl, hil, hB⟩ := hrel
        clear START
        have HB := Lib.hid hB
        have BB := Lib.hid (B3.out.trans (below_le0 hB B3.out.size))
        clear hB
        by_cases hi : i < nc
        · have g1 : decide ((i : Int) < (nc : Int)) = true := decide_eq_true (by omega)
          obtain ⟨p, hp⟩ : ∃ p, cacc[i]? = some p := ⟨_, List.getElem?_eq_getElem (by rw [NC.out]; exact hi)⟩
          obtain ⟨g, rfl, hgb, hgl⟩ := row_of COM.out (by omega)
          obtain ⟨g2, rfl, hg2b, hg2l⟩ := row_of SP3.out (by omega)
          obtain ⟨x, hx⟩ : ∃ x : Int, ((a0.size - p.1 : Nat) : Int) = x := ⟨_, rfl⟩
          obtain ⟨y, hy⟩ : ∃ y : Int, ((a0.size - p.2 : Nat) : Int) = y := ⟨_, rfl⟩
          have C := Lib.hid (fun j u hj => (HB.out.cell (p := ⟨g, i * 2 + j, none⟩) hgl).trans (pc_cells COM.out rfl (absC_get hp) j u hj))
          have D := Lib.hid (fun j u hj => (HB.out.cell (p := ⟨g2, i * 2 + j, none⟩) hg2l).trans (two_cells (f := fun p => [.int .i64 ((a0.size - p.1 : Nat) : Int), .int .i64 ((a0.size - p.2 : Nat) : Int)]) (fun _ => rfl) SP3.out rfl hp j u hj))
          have d0 : wr.cell? ⟨g, i * 2, none⟩ = some (.int .i64 x) := C.out 0 _ (by rw [← hx]; rfl)
          have d1 : wr.cell? ⟨g, i * 2 + 1, none⟩ = some (.int .i64 y) := C.out 1 _ (by rw [← hy]; rfl)
          have e0 : wr.cell? ⟨g2, i * 2, none⟩ = some (.int .i64 x) := D.out 0 _ (by rw [← hx]; rfl)
          have e1 : wr.cell? ⟨g2, i * 2 + 1, none⟩ = some (.int .i64 y) := D.out 1 _ (by rw [← hy]; rfl)
          have i1 : (0 : Int) ≤ (i : Int) := by omega
          have i2 : (i : Int) < (nc : Int) := by omega
          have i3 : ((i : Int)).toNat = i := by omega
          have wi : IntKind.i64.wrap ((i : Int) + 1) = (i : Int) + 1 := IntWalk.i64_in _ (by omega)
          have f1 : (x != x) = false := by simp
          have f2 : (y != y) = false := by simp
          have hgw := hgl
          have hgr : g < wr.heap.size := by have := HB.out.size; omega
          clear hp hx hy
          go_upto_region 12 with fail
          obtain ⟨C5, hC5⟩ : ∃ x, wr.heap.size = x := ⟨_, rfl⟩
          obtain ⟨w4, hw4⟩ : ∃ z, wr.alloc (.cells #[.int .i64 x, .int .i64 y] 31) = z := ⟨_, rfl⟩
          have K5 := Lib.hid (show w4.heap[C5]? = some (.cells #[.int .i64 x, .int .i64 y] 31 (0, 0)) by rw [← hw4, ← hC5]; exact heap_alloc_new wr _)
          have B4 := Lib.hid (show Below w3.heap.size w3 w4 by rw [← hw4]; exact HB.out.alloc HB.out.size _)
          have m0 : w4.cell? ⟨g, i * 2, none⟩ = some (.int .i64 x) := by rw [← hw4]; exact (Below.cell ((Below.refl wr.heap.size wr).alloc (Nat.le_refl _) _) (p := ⟨g, i * 2, none⟩) hgr).trans d0
          have m1 : w4.cell? ⟨g, i * 2 + 1, none⟩ = some (.int .i64 y) := by rw [← hw4]; exact (Below.cell ((Below.refl wr.heap.size wr).alloc (Nat.le_refl _) _) (p := ⟨g, i * 2 + 1, none⟩) hgr).trans d1
          rw [hC5, hw4]
          have q0 : w4.cell? ⟨C5, 0, none⟩ = some (.int .i64 x) := by rw [Lib.cell_of_heap K5.out]; rfl
          have q1 : w4.cell? ⟨C5, 1, none⟩ = some (.int .i64 y) := by rw [Lib.cell_of_heap K5.out]; rfl
          clear hw4 hC5 d0 d1 e0 e1
          go_quiet (fail)
          go_wp2_with fail
          refine ⟨⟨i + 1, rfl, by omega, below_drewN B4.out _⟩, ?_⟩
          show nc - ((i : Int) + 1).toNat < nc - (i : Int).toNat
          omega
        · have g1 : decide ((i : Int) < (nc : Int)) = false := decide_eq_false (by omega)
          have W4 := Lib.hid (WK.out wr (Utf8Tabs_below T.out BB.out))
          go_wp2_with fail
          refine (W4.out).mono ?_
          rintro e w4 ⟨rfl, hb4⟩
          have B4 := Lib.hid (BB.out.trans (below_le0 hb4 BB.out.size))
          clear hb4
          go_wp2_with fail
          go_ret
          exact ⟨rfl, B4.out⟩
  · go_enter Tryz.func3, Tryz.ntmps3
    go_wp2_with fail
    go_ret
    exact ⟨rfl, Below.refl _ _⟩
end Go.Proofs.YtmgkccnfhkcncaaGreatDoor.fnComments
