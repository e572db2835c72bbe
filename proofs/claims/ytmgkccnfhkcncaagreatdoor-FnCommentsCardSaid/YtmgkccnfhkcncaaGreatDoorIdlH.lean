/-
  css_lexer's lexer: consumeIdentLike, where it tells nothing. css_lexer's lexer: consumeIdentLike in general.
-/
import Derived.Test.YtmgkccnfhkcncaaGreatDoorNameI
import Derived.Test.YtmgkccnfhkcncaaGreatDoorUrlI
import Derived.Test.YtmgkccnfhkcncaaGreatDoorUrlG
namespace Go.Proofs.YtmgkccnfhkcncaaGreatDoor
open Go.RowKit

theorem namePre_self (s : ByteArray) (k : Nat) : namePre s k k = [] := by unfold namePre; rw [Nat.sub_self]; rfl
theorem isUrl_long {l : List UInt8} (h : l.length ≠ 3) : isUrlB l = false := by
  unfold isUrlB
  split
  · exact absurd rfl h
  · rfl
theorem isUrl_bytes {s : ByteArray} (h0 : 0 < s.size) (h1 : 1 < s.size) (h2 : 2 < s.size) (h : s.size = 3) : isUrlB s.data.toList = ((((s[0].toNat : Int) == 117) || ((s[0].toNat : Int) == 85)) && (((s[1].toNat : Int) == 114) || ((s[1].toNat : Int) == 82)) && (((s[2].toNat : Int) == 108) || ((s[2].toNat : Int) == 76))) := by
  obtain ⟨d⟩ := s
  obtain ⟨l⟩ := d
  obtain ⟨a, b, c, hl⟩ := three (l := l) h
  subst hl
  rfl
/-- Back to where the lexer was saved. -/
theorem LR.back {b : Nat} {P : Nat → Option Value} {s : ByteArray} {r r1 : List UInt8} {st : Nat} {uo kd fl : Int} {w w1 : World} (h : LR b P s r st uo kd fl w) (h1 : LR b P s r1 st uo kd fl w1) {n K c l : Int}
    (c32 : w1.cell? ⟨b, 32, none⟩ = some (.int .i64 n)) (c35 : w1.cell? ⟨b, 35, none⟩ = some (.int .i32 c)) (c37 : w1.cell? ⟨b, 37, none⟩ = some (.int .i32 l)) (c33 : w1.cell? ⟨b, 33, none⟩ = some (.int .i64 K)) :
    LR b P s r1 st uo kd fl ((((w.setCell ⟨b, 32, none⟩ (.int .i64 n)).setCell ⟨b, 35, none⟩ (.int .i32 c)).setCell ⟨b, 37, none⟩ (.int .i32 l)).setCell ⟨b, 33, none⟩ (.int .i64 K)) := by
  obtain ⟨hTB, hP, hs, k, n0, hA, hst, hn, hL⟩ := h
  obtain ⟨_, _, _, k1, n1, hA1, hst1, hn1, hL1⟩ := h1
  obtain ⟨d32, d33, d35, _, d37, -, -, -⟩ := hL1.c
  rw [c32] at d32
  rw [c33] at d33
  rw [c35] at d35
  rw [c37] at d37
  have e1 : n = n1 := by injection d32 with h; injection h
  have e2 : K = ((k1 + widB r1 : Nat) : Int) := by injection d33 with h; injection h
  have e3 : c = hdB r1 := by injection d35 with h; injection h
  have e4 : l = (k1 : Int) - st := by injection d37 with h; injection h
  subst e1; subst e2; subst e3; subst e4
  have f : Fr b w ((((w.setCell ⟨b, 32, none⟩ (.int .i64 (n1 : Int))).setCell ⟨b, 35, none⟩ (.int .i32 (hdB r1))).setCell ⟨b, 37, none⟩ (.int .i32 ((k1 : Int) - st))).setCell ⟨b, 33, none⟩ (.int .i64 ((k1 + widB r1 : Nat) : Int))) :=
    (((Fr.setCell w 32 _).trans (Fr.setCell _ 35 _)).trans (Fr.setCell _ 37 _)).trans (Fr.setCell _ 33 _)
  exact ⟨hTB.fr f, hP, hs, k1, n1, hA1, hst1, hn1, (((hL.set32 _).set35 _).set37 _).set33 _⟩
theorem LR.c32 {b : Nat} {P : Nat → Option Value} {s : ByteArray} {r : List UInt8} {st : Nat} {uo kd fl : Int} {w : World} (h : LR b P s r st uo kd fl w) : ∃ n : Nat, w.cell? ⟨b, 32, none⟩ = some (.int .i64 (n : Int)) := by
  obtain ⟨_, _, _, k, n, _, _, _, hL⟩ := h
  exact ⟨n, hL.c.1⟩

/-- The loop over whitespace, with a block beside it. -/
def W2Rel (b : Nat) (P : Nat → Option Value) (s : ByteArray) (st : Nat) (uo kd fl : Int) (w : World) (T : List UInt8) (B : Nat) (o : Obj) (wr : World) : Prop :=
  ∃ r', LR b P s r' st uo kd fl wr ∧ Fr b w wr ∧ spcB r' = T ∧ wr.heap[B]? = some o
theorem open_cell {w : World} {B : Nat} {v : Value} {T : TypeId} (h : w.heap[B]? = some (.cells #[v] T (0, 0))) : w.cell? ⟨B, 0, none⟩ = some v := by rw [Lib.cell_of_heap h]; rfl

end Go.Proofs.YtmgkccnfhkcncaaGreatDoor

namespace Go.Proofs.YtmgkccnfhkcncaaGreatDoor
open Go.RowKit

theorem addrB_37 {T R : List UInt8} {K : Nat} {t0 : Bool} (h : addrB T = (K, t0, R)) : ∀ t y X, urlB T = (some (t, y), X) → (K : Int) = 37 ∧ y = R := by
  intro t y X hu
  unfold addrB at h
  rw [hu] at h
  obtain ⟨h1, h2⟩ := Prod.mk.inj h
  obtain ⟨h3, h4⟩ := Prod.mk.inj h2
  subst h1
  exact ⟨rfl, h4⟩
theorem addrB_3 {T R : List UInt8} {K : Nat} {t0 : Bool} (h : addrB T = (K, t0, R)) : ∀ X, urlB T = (none, X) → (K : Int) = 3 ∧ badB X = R := by
  intro X hu
  unfold addrB at h
  rw [hu] at h
  obtain ⟨h1, h2⟩ := Prod.mk.inj h
  obtain ⟨h3, h4⟩ := Prod.mk.inj h2
  subst h1
  exact ⟨rfl, h4⟩

set_option maxHeartbeats 8000000 in
set_option maxRecDepth 1000000 in
theorem idlG (b : Nat) (G : LogI) (P : Nat → Option Value) (s : ByteArray) (r : List UInt8) (st k : Nat) (uo kd fl : Int) (cs : List (Nat × Nat)) (S : Nat → Prop) (K : Nat) (t0 : Bool) (R : List UInt8) (w : World) (h : LR b P s r st uo kd fl w) (hX : LxS b G s k cs S P w) (hkst : k ≤ st) (hA : AtB s st r) (hi : identB r = (K, t0, R)) :
    Calls Tryz.prog 102 #[.pointer (some ⟨b, 0, none⟩)] w fun e w' => e = .returned (.int .u8 (K : Nat)) ∧ LxP b G s R st uo kd fl cs S w w' := by
  have ST := Lib.hid (fun r w (h : LR b P s r st uo kd fl w) => stepL b P s r st uo kd fl w h)
  have HX := Lib.hid hX
  have HKS := Lib.hid hkst
  have HQ := Lib.hid (show ∀ (R' : List UInt8) (w' : World), LR b P s R' st uo kd fl w' → Fr b w w' → LxP b G s R' st uo kd fl cs S w w' from fun R' w' hL f => LxP.quiet hX hL f (by
    obtain ⟨k', hA', hst', -⟩ := hL.reads
    have := hA'.size
    omega))
  have N := Lib.hid (nameI b P s st r st uo kd fl w h hA)
  have HI := Lib.hid hi
  clear h hA hi hX hkst
  go_enter Tryz.func102, Tryz.ntmps102
  go_wp2_with fail
  refine (N.out).mono ?_
  rintro e w1 ⟨nm, rfl, hnm, h1, f1⟩
  rw [namePre_self, List.nil_append] at hnm
  obtain ⟨k1, hA1, hst1, hk1, hss, -, -, c35, c36, c37⟩ := h1.reads
  have hlt := h1.lt
  have NM := Lib.hid hnm
  have H1 := Lib.hid h1
  have F1 := Lib.hid f1
  have hA1s := hA1.le
  have HA1 := Lib.hid hA1
  clear hnm h1 f1 hA1
  by_cases g1 : hdB (nameR r) = 40
  · have HI2 := Lib.hid (show (if isUrlB (nameW r) = true ∧ hdB (spcB (tlB (nameR r))) ≠ 34 ∧ hdB (spcB (tlB (nameR r))) ≠ 39 then addrB (spcB (tlB (nameR r))) else (27, false, tlB (nameR r))) = (K, t0, R) by rw [← HI.out]; unfold identB; rw [if_pos g1])
    have E := Lib.hid (fun w => rangeEndI st k1 w hst1 (by omega))
    have BK := Lib.hid (bd_head HA1.out (by rw [g1]; decide))
    have TLT := Lib.hid (show (tlB (nameR r)).length < (nameR r).length from tl_lt g1 (by decide))
    have S1 := Lib.hid (ST.out _ _ H1.out)
    rw [g1] at c35
    clear g1 HI
    go_wp2_with fail
    refine (E.out _).mono ?_
    rintro e w2 ⟨rfl, hb2⟩
    have H2 := Lib.hid ((H1.out.fr hb2).fr ((Below.refl w2.heap.size w2).alloc (Nat.le_refl _) (.cells #[.int .i32 (k1 : Int)] 53)))
    have F2 := Lib.hid ((F1.out.trans (Fr.of hb2)).trans (Fr.of ((Below.refl w2.heap.size w2).alloc (Nat.le_refl _) (.cells #[.int .i32 (k1 : Int)] 53))))
    have hb2s := hb2.size
    obtain ⟨B, hB⟩ : ∃ B, w2.heap.size = B := ⟨_, rfl⟩
    have hBb : b < B := by omega
    have CB := Lib.hid (show (w2.alloc (.cells #[.int .i32 (k1 : Int)] 53)).heap[B]? = some (.cells #[.int .i32 (k1 : Int)] 53 (0, 0)) by rw [← hB]; exact heap_alloc_new w2 _)
    clear hb2 hb2s
    go_wp2_with fail
    obtain ⟨w2b, hw2b⟩ : ∃ x, w2.alloc (.cells #[.int .i32 (k1 : Int)] 53) = x := ⟨_, rfl⟩
    rw [hw2b]
    rw [hw2b] at H2 F2 CB
    clear hw2b hB
    refine (ST.out _ _ H2.out).mono ?_
    rintro e w3 ⟨rfl, h3, f3⟩
    have hltB : B < w2b.heap.size := (Array.getElem?_eq_some_iff.1 CB.out).1
    have CB3 := Lib.hid ((f3.block B hltB (by omega)).trans CB.out)
    have H3 := Lib.hid h3
    have F3 := Lib.hid (F2.out.trans f3)
    clear h3 f3 hltB c35 c36 c37
    by_cases g2 : nm.size = 3
    · have b0 : 0 < nm.size := by omega
      have b1 : 1 < nm.size := by omega
      have b2 : 2 < nm.size := by omega
      have UB := Lib.hid (isUrl_bytes b0 b1 b2 g2)
      have t3 : ((nm.size : Int) == 3) = true := beq_iff_eq.2 (by omega)
      clear g2
      obtain ⟨x0, hx0⟩ : ∃ x, nm[0] = x := ⟨_, rfl⟩
      obtain ⟨x1, hx1⟩ : ∃ x, nm[1] = x := ⟨_, rfl⟩
      obtain ⟨x2, hx2⟩ : ∃ x, nm[2] = x := ⟨_, rfl⟩
      rw [hx0, hx1, hx2] at UB
      obtain ⟨y, hy⟩ : ∃ y, isUrlB nm.data.toList = y := ⟨_, rfl⟩
      have HY := Lib.hid (show ((((x0.toNat : Int) == 117) || ((x0.toNat : Int) == 85)) && (((x1.toNat : Int) == 114) || ((x1.toNat : Int) == 82)) && (((x2.toNat : Int) == 108) || ((x2.toNat : Int) == 76))) = y by rw [← hy, UB.out])
      have HI3 := Lib.hid (show (if y = true ∧ hdB (spcB (tlB (nameR r))) ≠ 34 ∧ hdB (spcB (tlB (nameR r))) ≠ 39 then addrB (spcB (tlB (nameR r))) else (27, false, tlB (nameR r))) = (K, t0, R) by rw [← HI2.out, ← hy, NM.out])
      clear hy UB HI2
      go_wp2_with fail
      go_quiet (fail)
      clear hx0 hx1 hx2
      go_upto_region 7 with fail
      obtain ⟨r1, hr1⟩ : ∃ r1, tlB (nameR r) = r1 := ⟨_, rfl⟩
      rw [hr1] at H3 HI3 TLT
      clear hr1
      have H4 := Lib.hid (show LR b P s r1 st uo kd fl (w3.drewN nq) from H3.out.fr (below_draws _ _ _))
      have F4 := Lib.hid (F3.out.trans (Fr.drewN b nq w3))
      go_cut [5, 6, 7, 58] (fun _ _ _ v wx => v = .bool y ∧ LR b P s r1 st uo kd fl wx ∧ Fr b w wx ∧ wx.heap[B]? = some (.cells #[.int .i32 (k1 : Int)] 53 (0, 0)))
      case first =>
        go_wp2_with fail
        all_goals
          go_meet
          exact ⟨by rw [← HY.out]; simp [*], H4.out, F4.out, CB3.out⟩
      case rest =>
        obtain ⟨rfl, hL5, hF5, hC5⟩ := hcut
        have H5 := Lib.hid hL5
        have F5 := Lib.hid hF5
        have C5 := Lib.hid hC5
        obtain ⟨n5, d32⟩ := hL5.c32
        obtain ⟨k5, hA5, hst5, hk5, -, -, d33, d35, -, d37⟩ := hL5.reads
        have hz5 := hA5.le
        have hlt5 := hL5.lt
        clear hL5 hF5 hC5 H3 F3 CB3 H4 F4 HY x0 x1 x2 hA5
        cases y
        · have HI4 := HI3.out
          rw [if_neg (fun hh => by cases hh.1)] at HI4
          obtain ⟨rfl, h4⟩ := Prod.mk.inj HI4
          have RR := Lib.hid (show r1 = R from (Prod.mk.inj h4).2)
          clear HI4 h4
          go_wp2_with fail
          go_ret
          exact ⟨rfl, by rw [← RR.out]; exact HQ.out _ _ H5.out F5.out⟩
        · obtain ⟨T, hT⟩ : ∃ T, spcB r1 = T := ⟨_, rfl⟩
          have HI4 := Lib.hid (show (if hdB T ≠ 34 ∧ hdB T ≠ 39 then addrB T else (27, false, r1)) = (K, t0, R) by
            have h := HI3.out
            rw [hT] at h
            rw [← h]
            by_cases hh : hdB T ≠ 34 ∧ hdB T ≠ 39
            · rw [if_pos hh, if_pos ⟨rfl, hh⟩]
            · rw [if_neg hh, if_neg (fun h2 => hh h2.2)])
          have HT := Lib.hid hT
          clear hT HI3
          obtain ⟨c5, hc5⟩ : ∃ c, hdB r1 = c := ⟨_, rfl⟩
          obtain ⟨l5, hl5⟩ : ∃ l : Int, (k5 : Int) - st = l := ⟨_, rfl⟩
          obtain ⟨K5, hK5⟩ : ∃ K : Int, ((k5 + widB r1 : Nat) : Int) = K := ⟨_, rfl⟩
          have D35 := Lib.hid (show _ from d35)
          have D37 := Lib.hid (show _ from d37)
          have D33 := Lib.hid (show _ from d33)
          have D32 := Lib.hid (show _ from d32)
          rw [hc5] at d35 D35
          rw [hl5] at d37 D37
          rw [hK5] at d33 D33
          clear hc5 hl5 hK5
          go_upto_block 0 with fail
          go_cut [2] (fun v wx => v = .int .u8 0 ∧ LR b P s T st uo kd fl wx ∧ Fr b w wx ∧ wx.heap[B]? = some (.cells #[.int .i32 (k1 : Int)] 53 (0, 0)))
          case first =>
            go_wp2_with fail
            go_loopw [] (fun wr => W2Rel b P s st uo kd fl w T B (.cells #[.int .i32 (k1 : Int)] 53 (0, 0)) wr) (fun wr => leftI b s wr)
            case atStart => exact ⟨r1, H5.out, F5.out, HT.out, C5.out⟩
            case round =>
              obtain ⟨r2, hL2, hF2, hx2, hC2⟩ := hrel
              obtain ⟨-, -, -, -, -, -, -, e35, -, -⟩ := hL2.reads
              have M2 := Lib.hid hL2.left
              have HL2 := Lib.hid hL2
              have HF2 := Lib.hid hF2
              have HC3 := Lib.hid hC2
              have S3 := Lib.hid (ST.out _ _ hL2)
              clear hL2 hF2 hC2 d32 d33 d35 d37
              have W := Lib.hid (fun w => lexSpace (hdB r2) w)
              obtain ⟨cq2, hcq2⟩ : ∃ cq, hdB r2 = cq := ⟨_, rfl⟩
              rw [hcq2] at e35 W
              have HC2 := Lib.hid hcq2
              clear hcq2
              by_cases g7 : spB cq2 = true
              · have X2 := Lib.hid (show spcB (tlB r2) = T by rw [← spcB_go (r := r2) (by rw [HC2.out]; exact g7)]; exact hx2)
                have L3 := Lib.hid (show (tlB r2).length < r2.length from tl_lt rfl (by rw [HC2.out]; intro e; rw [e] at g7; exact absurd g7 (by decide)))
                rw [g7] at W
                clear g7 hx2
                go_wp2_with (go_at_call 62; refine (W.out _).mono ?_; rintro e w' ⟨rfl, rfl⟩)
                refine (S3.out).mono ?_
                rintro e w4 ⟨rfl, h4, f4⟩
                have hlB := (Array.getElem?_eq_some_iff.1 HC3.out).1
                have C4 := Lib.hid ((f4.block B hlB (by omega)).trans HC3.out)
                have H4 := Lib.hid h4
                have F4 := Lib.hid (HF2.out.trans f4)
                clear h4 f4 e35 hlB
                go_wp2_with fail
                go_roundw
                case rel => exact ⟨_, H4.out, F4.out, X2.out, C4.out⟩
                case measure => rw [H4.out.left, M2.out]; exact L3.out
              · have g8 := Bool.eq_false_iff.2 g7
                have e3 : r2 = T := by rw [← spcB_stop (r := r2) (by rw [HC2.out]; exact g8)]; exact hx2
                have E3 := Lib.hid e3
                rw [g8] at W
                clear g7 g8 hx2 e3
                go_wp2_with (go_at_call 62; refine (W.out _).mono ?_; rintro e w' ⟨rfl, rfl⟩)
                go_meet
                exact ⟨rfl, by rw [← E3.out]; exact HL2.out, HF2.out, HC3.out⟩
          case rest =>
            obtain ⟨rfl, hL6, hF6, hC6⟩ := hcut
            have q0 := open_cell hC6
            obtain ⟨n6, m32⟩ := hL6.c32
            obtain ⟨k6, hA6, hst6, hk6, -, -, m33, m35, -, m37⟩ := hL6.reads
            have z32 := hL6.fz 32
            have z33 := hL6.fz 33
            have z35 := hL6.fz 35
            have z37 := hL6.fz 37
            have H6 := Lib.hid hL6
            have F6 := Lib.hid hF6
            have UU := Lib.hid (fun hh : addrB T = (K, t0, R) => urlG b G P s T st k k1 uo kd fl cs S (K : Int) R _ hL6 (HX.out.fr hF6 (Nat.le_refl _)) (by have := HKS.out; omega) BK.out (by have h1 := HA1.out.size; have h2 := TLT.out; have h3 := spcB_le r1; rw [HT.out] at h3; omega) (addrB_37 hh) (addrB_3 hh))
            obtain ⟨cq, hcq⟩ : ∃ cq, hdB T = cq := ⟨_, rfl⟩
            rw [hcq] at m35 HI4
            clear hL6 hF6 hC6 hA6 d32 d33 d35 d37 hcq
            by_cases g1 : cq ≠ 34 ∧ cq ≠ 39
            · obtain ⟨g2, g3⟩ := g1
              have HI5 := HI4.out
              rw [if_pos ⟨g2, g3⟩] at HI5
              have U2 := Lib.hid (UU.out HI5)
              have t1 : (cq == 34) = false := beq_eq_false_iff_ne.2 g2
              have t2 : (cq == 39) = false := beq_eq_false_iff_ne.2 g3
              have t3 : (cq != 34) = true := bne_iff_ne.2 g2
              have t4 : (cq != 39) = true := bne_iff_ne.2 g3
              clear g2 g3 HI5 UU HI4 m32 m33 m37 z32 z33 z35 z37
              go_wp2_with fail
              refine (U2.out).mono ?_
              rintro e w7 ⟨rfl, h7⟩
              have H7 := Lib.hid (LxP.trans (F6.out.fx HX.out.own) (fun _ hi => .inl hi) h7)
              clear h7 m35 q0
              go_wp2_with fail
              go_ret
              exact ⟨rfl, H7.out⟩
            · have HI5 := HI4.out
              rw [if_neg g1] at HI5
              obtain ⟨rfl, h4⟩ := Prod.mk.inj HI5
              have RR := Lib.hid (show r1 = R from (Prod.mk.inj h4).2)
              clear HI5 h4 HI4 UU
              by_cases g2 : cq = 34
              · subst g2
                clear g1
                go_wp2_with fail
                go_ret
                exact ⟨rfl, by rw [← RR.out]; exact HQ.out _ _ (H6.out.back H5.out D32.out D35.out D37.out D33.out) (F6.out.trans ((((Fr.setCell _ 32 _).trans (Fr.setCell _ 35 _)).trans (Fr.setCell _ 37 _)).trans (Fr.setCell _ 33 _)))⟩
              · have g3 : cq = 39 := by
                  by_cases hh : cq = 39
                  · exact hh
                  · exact absurd ⟨g2, hh⟩ g1
                subst g3
                clear g1 g2
                go_wp2_with fail
                go_ret
                exact ⟨rfl, by rw [← RR.out]; exact HQ.out _ _ (H6.out.back H5.out D32.out D35.out D37.out D33.out) (F6.out.trans ((((Fr.setCell _ 32 _).trans (Fr.setCell _ 35 _)).trans (Fr.setCell _ 37 _)).trans (Fr.setCell _ 33 _)))⟩
    · have t3 : ((nm.size : Int) == 3) = false := beq_eq_false_iff_ne.2 (by omega)
      have UF := isUrl_long (l := nameW r) (by rw [← NM.out]; exact g2)
      have HI3 := HI2.out
      rw [UF, if_neg (fun hh => by cases hh.1)] at HI3
      obtain ⟨rfl, h4⟩ := Prod.mk.inj HI3
      have RR := Lib.hid (show tlB (nameR r) = R from (Prod.mk.inj h4).2)
      clear g2 UF HI3 h4
      go_wp2_with fail
      go_ret
      exact ⟨rfl, by rw [← RR.out]; exact HQ.out _ _ H3.out F3.out⟩
  · have HI2 := HI.out
    unfold identB at HI2
    rw [if_neg g1] at HI2
    obtain ⟨rfl, h2⟩ := Prod.mk.inj HI2
    have RR := Lib.hid (show nameR r = R from (Prod.mk.inj h2).2)
    obtain ⟨cq, hcq⟩ : ∃ cq, hdB (nameR r) = cq := ⟨_, rfl⟩
    rw [hcq] at c35 g1
    have t1 : (cq == 40) = false := beq_eq_false_iff_ne.2 g1
    clear g1 hcq HI2 h2
    go_wp2_with fail
    go_ret
    exact ⟨rfl, by rw [← RR.out]; exact HQ.out _ _ H1.out F1.out⟩
end Go.Proofs.YtmgkccnfhkcncaaGreatDoor
