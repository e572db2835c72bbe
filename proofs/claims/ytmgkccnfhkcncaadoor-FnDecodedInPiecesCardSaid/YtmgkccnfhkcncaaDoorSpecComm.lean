/-
  The reference's lexer: comments.
-/
import Derived.Test.YtmgkccnfhkcncaaDoorSpecRow
import Derived.Deep.RegionLaw
namespace Go.Proofs.YtmgkccnfhkcncaaDoor
open Go.RowKit

theorem closeS_end (t : List Nat) : closeS (42 :: 47 :: t) = some t := by unfold closeS; rw [if_pos ⟨rfl, rfl⟩]; rfl
theorem closeS_step (c : Nat) (t : List Nat) (h : ¬ (c = 42 ∧ cpAt t 0 = 47)) : closeS (c :: t) = closeS t := by
  have h2 : ¬ (c = 42 ∧ t.head? = some 47) := by
    rintro ⟨h1, h2⟩
    cases t with
    | nil => simp at h2
    | cons d u =>
      simp at h2; subst h2
      exact h ⟨h1, rfl⟩
  conv => lhs; unfold closeS
  rw [if_neg h2]
theorem infoPc : (Tryd.prog.info? 76).map (fun i => (i.zero, i.size, i.bytes)) = some (some (.agg #[.int .i64 0, .int .i64 0]), 2, 16) := by kernel_rfl
/-- The loop of comment. -/
def CRel (b : Nat) (s : ByteArray) (l : List Nat) (o : Bool) (base n : Nat) (xs : List (Nat × Nat)) (row : Option Nat) (W w : World) : Prop :=
  ∃ r cv1 o1 done, SR b s r cv1 o1 w ∧ w.ownsRow base 76 2 cv1 (n + done.length) (cellsP s.size (xs ++ done)) ∧ Fc b row W w ∧ NewRow W row cv1.ownBlock ∧
    done ++ (commS r).1 = (commS l).1 ∧ (commS r).2.1 = (commS l).2.1 ∧ (o1 || (commS r).2.2) = (o || (commS l).2.2) ∧ done.length + r.length ≤ l.length
/-- The loop within a comment. -/
def KRel (b : Nat) (s : ByteArray) (t : List Nat) (cv : Value) (o : Bool) (W w : World) : Prop := ∃ r, SR b s r cv o w ∧ Fr b W w ∧ closeS r = closeS t ∧ r.length ≤ t.length
theorem pc_two (w : World) (x y : Value) (T : TypeId) : ∀ j u, [x, y][j]? = some u → (w.alloc (.cells #[x, y] T)).cell? ((⟨w.heap.size, 0, none⟩ : Addr).add j) = some u :=
  World.news_of_block (cs := #[x, y]) (heap_alloc_new w _)
theorem pc_new (w : World) (R : Nat) (hR : w.heap.size = R) (x y : Value) (T : TypeId) : ∀ j u, [x, y][j]? = some u → (w.alloc (.cells #[x, y] T)).cell? ((⟨R, 0, none⟩ : Addr).add j) = some u := by
  subst hR; exact pc_two w x y T
theorem SR.plus {b : Nat} {s : ByteArray} {l l' : List Nat} {cv : Value} {o : Bool} {w : World} (h : SR b s l cv o w) {k n : Nat} (hA : At s (k + n) l') : SR b s l' cv o (w.setCell ⟨b, 1, none⟩ (.int .i64 ((k : Int) + (n : Int)))) := by
  have := h.setAt hA
  rwa [Int.natCast_add] at this
theorem SR.c2 {b : Nat} {s : ByteArray} {l : List Nat} {cv : Value} {o : Bool} {w : World} (h : SR b s l cv o w) : w.cell? ⟨b, 2, none⟩ = some cv := by
  obtain ⟨k, _, hL⟩ := h
  exact hL.c2
theorem blen_at {s : ByteArray} {k : Nat} {l : List Nat} (h : At s k l) : k = s.size - blen l := by
  have := h.size
  unfold blen; omega
theorem Fr.drew' {b : Nat} {w w' : World} (h : Fr b w w') : Fr b w w'.drew := ⟨h.os, h.tape, h.output, h.size, h.block⟩
/-- A comment that is appended. -/
theorem comm_add {b : Nat} {s : ByteArray} {cv cv1 : Value} {o' : Bool} {r : List Nat} {base n z a e k k2 g cap H : Nat} {xs done : List (Nat × Nat)} {w wo X w3 : World}
    (HF : Fc b cv.ownBlock w wo) (HW : NewRow w cv.ownBlock cv1.ownBlock) (FW : Fr b wo X) (hgrow : X.grownBy w3 cv1.ownBlock) (hat : cv1.ownBlock = some g ∨ g = H) (hH : wo.heap.size ≤ H)
    (hown3 : w3.ownsRow base 76 2 (.slice (some ⟨g, 0, none⟩) (n + done.length + 1) cap) (n + done.length + 1) (cellsP z (xs ++ done) ++ [.int .i64 (k : Int), .int .i64 (k2 : Int)])) (hb : b < base) (hk : k = z - a) (hk2 : k2 = z - e) (S3 : SR b s r cv1 o' w3) :
    SR b s r (.slice (some ⟨g, 0, none⟩) (n + done.length + 1) cap) o' (w3.setCell ⟨b, 2, none⟩ (.slice (some ⟨g, 0, none⟩) (n + done.length + 1) cap)) ∧
    (w3.setCell ⟨b, 2, none⟩ (.slice (some ⟨g, 0, none⟩) (n + done.length + 1) cap)).ownsRow base 76 2 (.slice (some ⟨g, 0, none⟩) (n + done.length + 1) cap) (n + (done ++ [(a, e)]).length) (cellsP z (xs ++ (done ++ [(a, e)]))) ∧
    Fc b cv.ownBlock w (w3.setCell ⟨b, 2, none⟩ (.slice (some ⟨g, 0, none⟩) (n + done.length + 1) cap)) ∧ NewRow w cv.ownBlock (Value.ownBlock (.slice (some ⟨g, 0, none⟩) (n + done.length + 1) cap)) := by
  refine ⟨S3.setComments _, ?_, ?_, ?_⟩
  · have h := row_set hown3 (i := 2) hb (.slice (some ⟨g, 0, none⟩) (n + done.length + 1) cap)
    rw [List.length_append, ← List.append_assoc, cellsP_append, ← Nat.add_assoc]
    subst hk; subst hk2
    exact h
  · exact HF.trans HW (((FW.fc _).trans (NewRow.refl _ _) (Fc.grown hgrow b)).fr (Fr.setCell w3 2 _))
  · exact HW.trans (new_row hat hH) HF.size

set_option maxHeartbeats 8000000 in
set_option maxRecDepth 100000 in
theorem commentL (b : Nat) (s : ByteArray) (l : List Nat) (cv : Value) (o : Bool) (w : World) (base n : Nat) (xs : List (Nat × Nat)) (h : SR b s l cv o w) (hb : b < base) (hbw : base ≤ w.heap.size)
    (hown : w.ownsRow base 76 2 cv n (cellsP s.size xs)) (hn : n + l.length ≤ 4294967296) :
    Calls Tryd.prog 46 #[.pointer (some ⟨b, 0, none⟩)] w fun e w' => e = .returned (.tuple #[]) ∧ ∃ cv', SR b s (commS l).2.1 cv' (o || (commS l).2.2) w' ∧
      w'.ownsRow base 76 2 cv' (n + (commS l).1.length) (cellsP s.size (xs ++ (commS l).1)) ∧ Fc b cv.ownBlock w w' ∧ NewRow w cv.ownBlock cv'.ownBlock := by
  obtain ⟨i0, hi, hz0, hz1, hz2⟩ := info_parts infoPc
  have P := Lib.hid (fun l cv o w h => peek0 b s l cv o w h)
  have P1 := Lib.hid (fun l cv o w h => peek1 b s l cv o w h)
  have K := Lib.hid (fun c t cv o w h => take_cons b s c t cv o w h)
  have KN := Lib.hid (fun cv o w h => take_nil b s cv o w h)
  have START := Lib.hid (show CRel b s l o base n xs cv.ownBlock w w from ⟨l, cv, o, [], h, by simpa using hown, Fc.refl _ _ _, NewRow.refl _ _, rfl, rfl, rfl, by simp⟩)
  have HN := Lib.hid hn
  clear h hown hn
  go_enter Tryd.func46, Tryd.ntmps46
  go_wp2_with fail
  go_loopw [] (fun wr => CRel b s l o base n xs cv.ownBlock w wr) (fun wr => leftOf b s wr)
  case atStart => exact START.out
  case round =>
    obtain ⟨r, cv1, o1, done, hr, hown, hfc, hnew, hd, hrest, hopen, hlen⟩ := hrel
    clear START
    have HS := Lib.hid hr
    have HO := Lib.hid hown
    have HF := Lib.hid hfc
    have HW := Lib.hid hnew
    have HD := Lib.hid hd
    have HR := Lib.hid hrest
    have HP := Lib.hid hopen
    have HL := Lib.hid hlen
    clear hr hown hfc hnew hd hrest hopen hlen
    by_cases hc : cpAt r 0 = 47 ∧ cpAt r 1 = 42
    · obtain ⟨t, rfl⟩ := two_len hc
      clear hc
      obtain ⟨k, hA, d1⟩ := HS.out.c1
      have z1 := HS.out.fz 1
      have hkz : k ≤ 4294967296 := Nat.le_trans hA.le hA.hz
      have hks := hA.size
      have KB := Lib.hid (blen_at hA)
      have A2 := Lib.hid (show At s (k + 2) t by
        have h1 := hA.tail
        have h2 := h1.tail
        exact h2)
      have hk2 : k + 2 ≤ s.size := A2.out.le
      have hz : s.size ≤ 4294967296 := hA.hz
      clear hA hks
      have Q0 := Lib.hid (P.out _ _ _ _ HS.out)
      have Q1 := Lib.hid (P1.out _ _ _ _ HS.out)
      rw [cpAt_zero_cons] at Q0
      rw [cpAt_succ_cons, cpAt_zero_cons] at Q1
      go_wp2_with fail
      refine (Q0.out).mono ?_
      rintro e w' ⟨rfl, hww⟩
      first | (obtain rfl : _ = w' := hww) | (obtain rfl : _ = w' := hww.symm)
      go_wp2_with fail
      refine (Q1.out).mono ?_
      rintro e w' ⟨rfl, hww⟩
      first | (obtain rfl : _ = w' := hww) | (obtain rfl : _ = w' := hww.symm)
      have HS2 := Lib.hid (HS.out.plus (n := 2) A2.out)
      have HO2 := Lib.hid (row_set HO.out (i := 1) hb (.int .i64 ((k : Int) + ((2 : Nat) : Int))))
      have F2 := Lib.hid (Fr.setCell (b := b) wr 1 (.int .i64 ((k : Int) + ((2 : Nat) : Int))))
      go_wp2_with fail
      obtain ⟨wo, rfl⟩ : ∃ wo : World, wo = wr := ⟨_, rfl⟩
      go_loopw [] (fun wr => KRel b s t cv1 o1 (wo.setCell ⟨b, 1, none⟩ (.int .i64 ((k : Int) + ((2 : Nat) : Int)))) wr) (fun wr => leftOf b s wr)
      case atStart => exact ⟨t, HS2.out, Fr.refl _ _, rfl, Nat.le_refl _⟩
      case round =>
        obtain ⟨r', hr', hfr, hcl, hrl⟩ := hrel
        have HR' := Lib.hid hr'
        have HFR := Lib.hid hfr
        have HCL := Lib.hid hcl
        have HRL := Lib.hid hrl
        clear hr' hfr hcl hrl
        have Y0 := Lib.hid (P.out _ _ _ _ HR'.out)
        have Y1 := Lib.hid (P1.out _ _ _ _ HR'.out)
        cases r' with
        | nil =>
          rw [cpAt_nil] at Y0 Y1
          go_wp2_with fail
          refine (Y0.out).mono ?_
          rintro e w' ⟨rfl, hww⟩
          first | (obtain rfl : _ = w' := hww) | (obtain rfl : _ = w' := hww.symm)
          go_wp2_with fail
          refine (KN.out _ _ _ HR'.out).mono ?_
          rintro e w2 ⟨rfl, h2, f2⟩
          have z3 := h2.fz 3
          have e3 := h2.c3
          have HOP := Lib.hid (h2.open' true)
          obtain ⟨k2, hA2, e1⟩ := HOP.out.c1
          have e2 := HOP.out.c2
          have e2A := (HOP.out.alloc (.cells #[.int .i64 (k : Int), .int .i64 (k2 : Int)] 76)).c2
          have KE := Lib.hid hA2
          clear hA2
          have HOW := Lib.hid (row_set (row_fr (row_fr HO2.out HFR.out hb) f2 hb) (i := 3) hb (.bool true))
          have FW := Lib.hid ((F2.out.trans (HFR.out.trans f2)).trans (Fr.setCell (b := b) w2 3 (.bool true)))
          have hsz2 : base ≤ w2.heap.size := by
            have h1 := FW.out.size
            have h3 := HF.out.size
            rw [World.setCell] at h1; simp at h1; omega
          have hnb : n + done.length + 1 ≤ 4294967296 := by
            have h1 := HN.out
            have h3 := HL.out
            simp only [List.length_cons] at h3; omega
          go_wp2_with fail
          go_region_law ((refine step_append_lies _ (by rfl) (.tmp 41) (.tmp 48) 41 (by rfl) base 76 i0 _ 2 16 Tryd.underlying41 hi hz0 hz1 hz2 rfl (by decide) cv1 (n + done.length) (cellsP s.size (xs ++ done)) (by rfl) (HOW.out.drew.alloc _) ⟨_, 0, none⟩ 1 1 [.int .i64 (k : Int), .int .i64 (k2 : Int)] (by rfl) (by rfl) (pc_new _ _ (by simp [World.setCell]) _ _ _) (fun u hu => by simp at hu; rcases hu with rfl | rfl <;> rfl) (by decide) (by unfold maxLen; omega) (by omega) (by simp [World.setCell, World.drew]; omega) (w2.heap.size + 1) (by simp [World.setCell, World.drew]) ?_; intro g cap w3 hown3 hgrow hat hlt3; have S3 := Lib.hid (((show SR b s [] cv1 true (w2.setCell ⟨b, 3, none⟩ (.bool true)).drew from HOP.out).alloc _).grown hgrow (row_ne HOW.out hb)); have y2 := S3.out.fz 2; have y3 := S3.out.c2))
          all_goals
            have hH : wo.heap.size ≤ w2.heap.size + 1 := by
              have h1 := FW.out.size
              rw [World.setCell] at h1; simp at h1; omega
            have ADD := Lib.hid (comm_add HF.out HW.out ((by first | exact (FW.out.alloc _).drew' | exact FW.out.drew'.alloc _) : Fr b wo _) hgrow hat hH hown3 hb KB.out (show k2 = s.size - 0 from blen_at KE.out) S3.out)
            clear hgrow hat hown3 y2 y3
            go_wp2_with fail
            refine bodyPost_ret (results_none rfl _ _ _) rfl ?_
            have hno : closeS t = none := HCL.out.symm
            have hd := HD.out
            have hrr := HR.out
            have hp := HP.out
            rw [commS_open t hno] at hd hrr hp
            refine ⟨rfl, _, ?_, ?_, ADD.out.2.2.1, ADD.out.2.2.2⟩
            · rw [← hrr, ← hp, Bool.or_true]; exact ADD.out.1
            · rw [← hd]; exact ADD.out.2.1
        | cons c u =>
          rw [cpAt_zero_cons] at Y0
          rw [cpAt_succ_cons] at Y1
          by_cases he : c = 42 ∧ cpAt u 0 = 47
          · obtain ⟨rfl, he⟩ := he
            rw [he] at Y1
            obtain ⟨v, rfl⟩ : ∃ v, u = 47 :: v := by
              cases u with
              | nil => rw [cpAt_nil] at he; omega
              | cons d v =>
                rw [cpAt_zero_cons] at he
                have : d = 47 := by omega
                subst this
                exact ⟨v, rfl⟩
            clear he
            have hsome : closeS t = some v := by rw [← HCL.out]; exact closeS_end v
            have HSO := Lib.hid hsome
            clear hsome
            obtain ⟨k1, hA1, g1⟩ := HR'.out.c1
            have y1 := HR'.out.fz 1
            have hk1z : k1 + 2 ≤ s.size := (show At s (k1 + 2) v from hA1.tail.tail).le
            have A4 := Lib.hid (show At s (k1 + 2) v from hA1.tail.tail)
            clear hA1
            have HOP := Lib.hid (HR'.out.plus (n := 2) A4.out)
            have c2 := HR'.out.c2
            have e1 : (wr.setCell ⟨b, 1, none⟩ (.int .i64 ((k1 : Int) + 2))).cell? ⟨b, 1, none⟩ = some (.int .i64 ((k1 : Int) + 2)) := by
              obtain ⟨k5, hA5, g5⟩ := HOP.out.c1
              have : k5 = k1 + 2 := hA5.unique A4.out
              subst this
              rw [Int.natCast_add] at g5
              exact g5
            have e2 : (wr.setCell ⟨b, 1, none⟩ (.int .i64 ((k1 : Int) + 2))).cell? ⟨b, 2, none⟩ = some cv1 := HOP.out.c2
            have e2A : ((wr.setCell ⟨b, 1, none⟩ (.int .i64 ((k1 : Int) + 2))).alloc (.cells #[.int .i64 (k : Int), .int .i64 ((k1 : Int) + 2)] 76)).cell? ⟨b, 2, none⟩ = some cv1 := (HOP.out.alloc _).c2
            have HOW := Lib.hid (row_set (row_fr HO2.out HFR.out hb) (i := 1) hb (.int .i64 ((k1 : Int) + ((2 : Nat) : Int))))
            have FW := Lib.hid ((F2.out.trans HFR.out).trans (Fr.setCell (b := b) wr 1 (.int .i64 ((k1 : Int) + ((2 : Nat) : Int)))))
            have hsz2 : base ≤ wr.heap.size := by
              have h1 := FW.out.size
              have h3 := HF.out.size
              rw [World.setCell] at h1; simp at h1; omega
            have hnb : n + done.length + 1 ≤ 4294967296 := by
              have h1 := HN.out
              have h3 := HL.out
              simp only [List.length_cons] at h3; omega
            go_wp2_with fail
            refine (Y0.out).mono ?_
            rintro e w' ⟨rfl, hww⟩
            first | (obtain rfl : _ = w' := hww) | (obtain rfl : _ = w' := hww.symm)
            go_wp2_with fail
            refine (Y1.out).mono ?_
            rintro e w' ⟨rfl, hww⟩
            first | (obtain rfl : _ = w' := hww) | (obtain rfl : _ = w' := hww.symm)
            go_wp2_with fail
            go_region_law ((refine step_append_lies _ (by rfl) (.tmp 63) (.tmp 70) 41 (by rfl) base 76 i0 _ 2 16 Tryd.underlying41 hi hz0 hz1 hz2 rfl (by decide) cv1 (n + done.length) (cellsP s.size (xs ++ done)) (by rfl) (HOW.out.drew.alloc _) ⟨_, 0, none⟩ 1 1 [.int .i64 (k : Int), .int .i64 ((k1 : Int) + 2)] (by rfl) (by rfl) (pc_new _ _ (by simp [World.setCell]) _ _ _) (fun u hu => by simp at hu; rcases hu with rfl | rfl <;> rfl) (by decide) (by unfold maxLen; omega) (by omega) (by simp [World.setCell, World.drew]; omega) (wr.heap.size + 1) (by simp [World.setCell, World.drew]) ?_; intro g cap w3 hown3 hgrow hat hlt3; have S3 := Lib.hid (((show SR b s v cv1 o1 (wr.setCell ⟨b, 1, none⟩ (.int .i64 ((k1 : Int) + ((2 : Nat) : Int)))).drew from HOP.out).alloc _).grown hgrow (row_ne HOW.out hb)); have y2 := S3.out.fz 2; have y3 := S3.out.c2))
            all_goals
              have hH : wo.heap.size ≤ wr.heap.size + 1 := by
                have h1 := FW.out.size
                rw [World.setCell] at h1; simp at h1; omega
              have ADD := Lib.hid (comm_add HF.out HW.out ((by first | exact (FW.out.alloc _).drew' | exact FW.out.drew'.alloc _) : Fr b wo _) hgrow hat hH hown3 hb KB.out (show k1 + 2 = s.size - blen v from blen_at A4.out) S3.out)
              clear hgrow hat hown3 y2 y3
              go_wp2_with fail
              go_roundw
              case rel =>
                refine ⟨v, _, o1, done ++ [(blen (47 :: 42 :: t), blen v)], ADD.out.1, ADD.out.2.1, ADD.out.2.2.1, ADD.out.2.2.2, ?_, ?_, ?_, ?_⟩
                · rw [List.append_assoc, ← HD.out, commS_some t v HSO.out]; rfl
                · rw [← HR.out, commS_some t v HSO.out]
                · rw [← HP.out, commS_some t v HSO.out]
                · have h1 := HL.out
                  have h2 := closeS_len _ _ HSO.out
                  simp only [List.length_cons, List.length_append, List.length_nil] at h1 ⊢
                  omega
              case measure =>
                rw [ADD.out.1.left, HS.out.left]
                exact Nat.lt_of_le_of_lt (suf_enc (closeS_suf _ _ HSO.out)) (Nat.lt_trans (encs_lt 42 t) (encs_lt 47 (42 :: t)))
          · have t42 : ((c : Int) == 42) = decide (c = 42) := by rw [Bool.eq_iff_iff, beq_iff_eq, decide_eq_true_iff]; omega
            have hstep := closeS_step c u he
            have HCS := Lib.hid (hstep.symm.trans HCL.out)
            clear hstep
            have tm : ((c : Int) == -1) = false := beq_eq_false_iff_ne.2 (by omega)
            by_cases h42 : c = 42
            · have t47 : (cpAt u 0 == 47) = false := beq_eq_false_iff_ne.2 (fun e => he ⟨h42, e⟩)
              subst h42
              clear he t42
              obtain ⟨x, hx⟩ : ∃ x, cpAt u 0 = x := ⟨_, rfl⟩
              rw [hx] at Y1 t47
              clear hx
              go_wp2_with fail
              refine (Y0.out).mono ?_
              rintro e w' ⟨rfl, hww⟩
              first | (obtain rfl : _ = w' := hww) | (obtain rfl : _ = w' := hww.symm)
              go_wp2_with fail
              refine (Y1.out).mono ?_
              rintro e w' ⟨rfl, hww⟩
              first | (obtain rfl : _ = w' := hww) | (obtain rfl : _ = w' := hww.symm)
              go_wp2_with fail
              refine (K.out _ _ _ _ _ HR'.out).mono ?_
              rintro e w2 ⟨rfl, h2, f2⟩
              go_wp2_with fail
              go_roundw
              case rel => exact ⟨u, h2, HFR.out.trans f2, HCS.out, by have := HRL.out; simp only [List.length_cons] at this; omega⟩
              case measure => rw [h2.left, HR'.out.left]; exact encs_lt _ u
            · rw [decide_eq_false h42] at t42
              clear he h42
              go_wp2_with fail
              refine (Y0.out).mono ?_
              rintro e w' ⟨rfl, hww⟩
              first | (obtain rfl : _ = w' := hww) | (obtain rfl : _ = w' := hww.symm)
              go_wp2_with fail
              refine (K.out _ _ _ _ _ HR'.out).mono ?_
              rintro e w2 ⟨rfl, h2, f2⟩
              go_wp2_with fail
              go_roundw
              case rel => exact ⟨u, h2, HFR.out.trans f2, HCS.out, by have := HRL.out; simp only [List.length_cons] at this; omega⟩
              case measure => rw [h2.left, HR'.out.left]; exact encs_lt _ u
    · have hno := commS_no r hc
      have Q0 := Lib.hid (P.out _ _ _ _ HS.out)
      have Q1 := Lib.hid (P1.out _ _ _ _ HS.out)
      have HNO := Lib.hid hno
      clear hno
      obtain ⟨x, hx⟩ : ∃ x, cpAt r 0 = x := ⟨_, rfl⟩
      obtain ⟨y, hy⟩ : ∃ x, cpAt r 1 = x := ⟨_, rfl⟩
      rw [hx] at Q0 hc
      rw [hy] at Q1 hc
      clear hx hy
      by_cases h47 : x = 47
      · have t42 : (y == 42) = false := beq_eq_false_iff_ne.2 (fun e => hc ⟨h47, e⟩)
        subst h47
        clear hc
        go_wp2_with fail
        refine (Q0.out).mono ?_
        rintro e w' ⟨rfl, hww⟩
        first | (obtain rfl : _ = w' := hww) | (obtain rfl : _ = w' := hww.symm)
        go_wp2_with fail
        refine (Q1.out).mono ?_
        rintro e w' ⟨rfl, hww⟩
        first | (obtain rfl : _ = w' := hww) | (obtain rfl : _ = w' := hww.symm)
        go_wp2_with fail
        go_end0
        have hd := HD.out
        have hrr := HR.out
        have hp := HP.out
        rw [HNO.out] at hd hrr hp
        rw [List.append_nil] at hd
        refine ⟨rfl, cv1, ?_, ?_, HF.out, HW.out⟩
        · rw [← hrr, ← hp, Bool.or_false]; exact HS.out
        · rw [← hd]; exact HO.out
      · have t47 : (x == 47) = false := beq_eq_false_iff_ne.2 h47
        clear hc h47
        go_wp2_with fail
        refine (Q0.out).mono ?_
        rintro e w' ⟨rfl, hww⟩
        first | (obtain rfl : _ = w' := hww) | (obtain rfl : _ = w' := hww.symm)
        go_wp2_with fail
        go_end0
        have hd := HD.out
        have hrr := HR.out
        have hp := HP.out
        rw [HNO.out] at hd hrr hp
        rw [List.append_nil] at hd
        refine ⟨rfl, cv1, ?_, ?_, HF.out, HW.out⟩
        · rw [← hrr, ← hp, Bool.or_false]; exact HS.out
        · rw [← hd]; exact HO.out
end Go.Proofs.YtmgkccnfhkcncaaDoor
