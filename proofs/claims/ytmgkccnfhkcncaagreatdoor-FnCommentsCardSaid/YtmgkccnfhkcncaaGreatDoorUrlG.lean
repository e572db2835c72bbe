/-
  css_lexer's lexer: consumeURL in general. Printed by wip/gen_urlg.py.
-/
import Derived.Test.YtmgkccnfhkcncaaGreatDoorStrH
import Derived.Test.YtmgkccnfhkcncaaGreatDoorUrlI
namespace Go.Proofs.YtmgkccnfhkcncaaGreatDoor
open Go.RowKit
attribute [local go_sem ↓] Go.wp_at_zero Go.wp_at_succ

theorem LxS.lt {b : Nat} {G : LogI} {s : ByteArray} {k : Nat} {cs : List (Nat × Nat)} {S : Nat → Prop} {P : Nat → Option Value} {w : World} (h : LxS b G s k cs S P w) (hb : b < w.heap.size) : ∀ i, S i → i < w.heap.size := by
  obtain ⟨mv, cv, lv, nm, nL, h1, h2⟩ := h
  obtain ⟨a1, a2, a3, a4, a5⟩ := h1.lgs.apart
  obtain ⟨xs, hx, -⟩ := h1.legR
  obtain ⟨ys, hy⟩ := h1.lgs.row
  have hl := h1.low
  intro i hi
  rcases (h2 i).1 hi with hi | (hi | hi | hi | hi) | hi | hi
  · omega
  · omega
  · omega
  · omega
  · exact (own_base hy hi).2
  · exact (own_base h1.allR hi).2
  · exact (own_base hx hi).2
/-- The loop of consumeURL, in general. -/
def URelG (b : Nat) (P : Nat → Option Value) (s : ByteArray) (st : Nat) (uo kd fl : Int) (w : World) (x : Option (Bool × List UInt8) × List UInt8) (n : Nat) (wr : World) : Prop :=
  ∃ r', LR b P s r' st uo kd fl wr ∧ Fr b w wr ∧ urlB r' = x ∧ r'.length ≤ n
/-- Its inner loop, in general. -/
def WRelG (b : Nat) (P : Nat → Option Value) (s : ByteArray) (st : Nat) (uo kd fl : Int) (w : World) (T : List UInt8) (n : Nat) (wr : World) : Prop :=
  ∃ r' k', LR b P s r' st uo kd fl wr ∧ Fr b w wr ∧ spcB r' = T ∧ r'.length ≤ n ∧ AtB s k' r' ∧ Bd s k'
/-- The last loop of consumeURL. -/
def BRelG (b : Nat) (G : LogI) (s : ByteArray) (st : Nat) (uo kd fl : Int) (cs : List (Nat × Nat)) (S : Nat → Prop) (w : World) (R : List UInt8) (wr : World) : Prop :=
  ∃ r', LxP b G s r' st uo kd fl cs S w wr ∧ badB r' = R
theorem badB_go {r y : List UInt8} (h : badStep r = .inr y) : badB r = badB y := loopB_go badStep_lt h
theorem badB_end {r : List UInt8} {a : List UInt8} (h : badStep r = .inl a) : badB r = a := loopB_end h
/-- The lexer in general goes on without a word. -/
theorem LxP.go {b : Nat} {G : LogI} {s : ByteArray} {r R : List UInt8} {st : Nat} {uo kd fl : Int} {cs : List (Nat × Nat)} {S : Nat → Prop} {P : Nat → Option Value} {S1 : Nat → Prop} {w w1 w2 : World} (hX : LxS b G s (s.size - r.length) cs S1 P w1) (f : Fx S w w1) (hS : ∀ i, S1 i → S i ∨ w.heap.size ≤ i) (hL : LR b P s R st uo kd fl w2) (g : Fr b w1 w2) (hl : R.length ≤ r.length) : LxP b G s R st uo kd fl cs S w w2 :=
  LxP.trans f hS (LxP.quiet hX hL g (by omega))

set_option maxHeartbeats 8000000 in
set_option maxRecDepth 1000000 in
theorem urlG (b : Nat) (G : LogI) (P : Nat → Option Value) (s : ByteArray) (r : List UInt8) (st k m : Nat) (uo kd fl : Int) (cs : List (Nat × Nat)) (S : Nat → Prop) (K0 : Int) (R : List UInt8) (w : World) (h : LR b P s r st uo kd fl w) (hX : LxS b G s k cs S P w) (hkm : k ≤ m) (hB : Bd s m) (hm : m < s.size - r.length) (h37 : ∀ t y X, urlB r = (some (t, y), X) → K0 = 37 ∧ y = R) (h3 : ∀ X, urlB r = (none, X) → K0 = 3 ∧ badB X = R) :
    Calls Tryz.prog 123 #[.pointer (some ⟨b, 0, none⟩), .agg #[.int .i32 (m : Int)]] w fun e w' => e = .returned (.int .u8 K0) ∧ LxP b G s R st uo kd fl cs S w w' := by
  have ST := Lib.hid (fun P r w (h : LR b P s r st uo kd fl w) => stepL b P s r st uo kd fl w h)
  have EV := Lib.hid (fun P r w (h : LR b P s r st uo kd fl w) => escI b P s r st uo kd fl w h)
  have VE := Lib.hid (fun P r w (h : LR b P s r st uo kd fl w) => vescI b P s r st uo kd fl w h)
  obtain ⟨x, hx⟩ : ∃ x, urlB r = x := ⟨_, rfl⟩
  rw [hx] at h37 h3
  have H0 := Lib.hid h
  have HU := Lib.hid hx
  have HX := Lib.hid hX
  have NB := Lib.hid (show ∀ i, S i → w.heap.size ≤ i → False from fun i hi h2 => by have := hX.lt h.lt i hi; omega)
  have HM := Lib.hid (And.intro hkm (And.intro hB hm))
  have H37 := Lib.hid h37
  have H3 := Lib.hid h3
  have hl0 := h.lt
  clear h hx hX hkm hB hm h37 h3
  go_enter Tryz.func123, Tryz.ntmps123
  go_wp2_with fail
  go_step3
  go_wp2_with fail
  go_step3
  go_upto_block 0 with fail
  obtain ⟨Hb, hHb⟩ : ∃ H, w.heap.size = H := ⟨_, rfl⟩
  obtain ⟨wB, hwB⟩ : ∃ x, w.alloc (.cells #[.int .i32 (m : Int)] 53) = x := ⟨_, rfl⟩
  have FB := Lib.hid (show Fr b w wB by rw [← hwB]; exact Fr.of ((Below.refl _ _).alloc (Nat.le_refl _) _))
  have HLB := Lib.hid (show LR b P s r st uo kd fl wB by rw [← hwB]; exact H0.out.fr ((Below.refl _ _).alloc (Nat.le_refl _) _))
  have KB : wB.heap[Hb]? = some (.cells #[.int .i32 (m : Int)] 53 (0, 0)) := by
    have h := heap_alloc_new w (.cells #[.int .i32 (m : Int)] 53)
    rw [hwB, hHb] at h
    exact h
  have HBN := Lib.hid (show Hb ≠ b by omega)
  have HKB := Lib.hid KB
  rw [hwB, hHb]
  have HSZ := Lib.hid hHb
  clear KB hwB hHb
  go_cut [4, 5, 6, 7, 8, 9] (fun _ _ _ _ _ _ wx => ∃ X, x = (none, X) ∧ LxP b G s X st uo kd fl cs S w wx)
  case first =>
    go_wp2_with fail
    go_loopw [] (fun wr => URelG b P s st uo kd fl wB x r.length wr) (fun wr => leftI b s wr)
    case atStart => exact ⟨r, HLB.out, Fr.refl _ _, HU.out, Nat.le_refl _⟩
    case round =>
      obtain ⟨r', hL, hF, hx, hle⟩ := hrel
      obtain ⟨kp, hkA, hks, hkw, hsz, -, -, d35, c36, c37⟩ := hL.reads
      have M := Lib.hid hL.left
      have HL := Lib.hid hL
      have HF := Lib.hid hF
      have HLEN := Lib.hid hle
      have S2 := Lib.hid (ST.out _ _ _ hL)
      have V2 := Lib.hid (VE.out _ _ _ hL)
      have E2 := Lib.hid (fun w h => EV.out P r' w h)
      have HXX := Lib.hid hx
      have QT := Lib.hid (show ∀ (R' : List UInt8) (w2 : World), LR b P s R' st uo kd fl w2 → Fr b wr w2 → R'.length ≤ r'.length → LxP b G s R' st uo kd fl cs S w w2 from fun R' w2 hL2 f2 hl2 => LxP.quiet HX.out hL2 ((FB.out.trans hF).trans f2) (by have := HM.out; omega))
      clear hL hF hx hle
      by_cases g1 : hdB r' = 41
      · have e1 := urlB_end (r := r') (a := (some (false, tlB r'), [])) (by unfold urlStep; rw [if_pos g1])
        obtain ⟨rfl, hR⟩ := H37.out _ _ _ (by rw [← HXX.out]; exact e1)
        have RR := Lib.hid hR
        rw [g1] at d35
        clear g1 e1 hR hkA hks hkw hsz c36 c37
        go_wp2_with fail
        refine (S2.out).mono ?_
        rintro e w2 ⟨rfl, h2, f2⟩
        go_wp2_with fail
        rw [Exit.noGoto_ret]
        go_ret
        exact ⟨rfl, by rw [← RR.out]; exact QT.out _ _ h2 f2 (tlB_le r')⟩
      · by_cases g2 : hdB r' = -1
        · have e1 := urlB_end (r := r') (a := (some (true, r'), [])) (by unfold urlStep; rw [if_neg g1, if_pos g2])
          obtain ⟨rfl, hR⟩ := H37.out _ _ _ (by rw [← HXX.out]; exact e1)
          have RR := Lib.hid hR
          have BP := Lib.hid (bd_head hkA (by rw [g2]; decide))
          rw [g2] at d35
          clear g1 g2 e1 hR
          have KPZ := Lib.hid (show s.size - r'.length = kp by have := hkA.size; omega)
          obtain ⟨hkm, hBm, hm⟩ := HM.out
          have hkz := hkA.size
          have hmk : m < kp := by have := HLEN.out; omega
          have hkle := hkA.le
          have E := Lib.hid (fun w => rangeEndI st kp w hks (by omega))
          have HH := Lib.hid (show wr.heap[Hb]? = some (.cells #[.int .i32 (m : Int)] 53 (0, 0)) from (HF.out.block Hb (Array.getElem?_eq_some_iff.1 HKB.out).1 HBN.out).trans HKB.out)
          have HX2 := Lib.hid (HX.out.fr (k' := k) (FB.out.trans HF.out) (Nat.le_refl _))
          have TM := Lib.hid (fun (tx : ByteArray) w2 (hL2 : LR b P s r' st uo kd fl w2) (hX2 : LxS b G s k cs S P w2) => tellM b G s r' st k m uo kd fl 1 tx cs S P w2 hL2 hX2 hkm hBm (by decide) (by decide))
          have TI := Lib.hid (fun (P2 : Nat → Option Value) (tx : ByteArray) (na : Option Addr) (nl nc : Nat) w2 (hL2 : LR b P2 s r' st uo kd fl w2) (hX2 : LxS b G s m cs S P2 w2) => tellIDN b G s r' st m kp kp uo kd fl 0 34 1 tx na nl nc cs S P2 w2 hL2 hX2 hmk (by omega) (Nat.le_refl _) hkle BP.out (by decide) (by decide))
          unfold LogI.val logV at TI
          have HKA := Lib.hid hkA
          clear hkm hBm hm hkz hmk hkle hkA
          go_upto_region 11 with (go_at_call 35; refine (E.out _).mono ?_; rintro e w2 ⟨rfl, hb2⟩)
          obtain ⟨L, hLz⟩ : ∃ H, w2.heap.size = H := ⟨_, rfl⟩
          obtain ⟨wA, hwA⟩ : ∃ x, w2.alloc (.cells #[.int .i32 (kp : Int)] 53) = x := ⟨_, rfl⟩
          have BA := Lib.hid (show Below wr.heap.size wr wA by rw [← hwA]; exact hb2.alloc hb2.size _)
          have KL : wA.heap[L]? = some (.cells #[.int .i32 (kp : Int)] 53 (0, 0)) := by
            have h := heap_alloc_new w2 (.cells #[.int .i32 (kp : Int)] 53)
            rw [hwA, hLz] at h
            exact h
          have hLw : w.heap.size ≤ L := by have h1 := FB.out.size; have h2 := HF.out.size; have h3 := (hb2).size; omega
          have HLw := Lib.hid hLw
          have hLb : L ≠ b := by omega
          rw [hwA, hLz]
          clear hb2 hwA hLz hLw
          obtain ⟨d1, d2, d3, d4, d5, d6⟩ := HX2.out.c16 (HL.out.fr BA.out)
          have KH := (BA.out.block Hb (Array.getElem?_eq_some_iff.1 HH.out).1).trans HH.out
          have d7 : wA.cell? ⟨Hb, 0, none⟩ = some (.int .i32 (m : Int)) := by rw [Lib.cell_of_heap KH]; rfl
          have KH' := Lib.hid KH
          clear KH
          have d8 : wA.cell? ⟨L, 0, none⟩ = some (.int .i32 (kp : Int)) := by rw [Lib.cell_of_heap KL]; rfl
          have KL' := Lib.hid KL
          clear KL c36 c37 d35
          go_region_held3 (fun w' => w'.cell? ⟨b, 1, none⟩ = some (.func (.func 71) #[] #[.pointer (some ⟨G.gk, 0, none⟩), .pointer (some ⟨G.gm, 0, none⟩), .pointer (some ⟨G.gh, 0, none⟩), .pointer (some ⟨G.gs, 0, none⟩)]) ∧ w'.cell? ⟨b, 2, none⟩ = some (.func G.g2 #[] G.c2) ∧ w'.cell? ⟨b, 3, none⟩ = some (.func G.g3 #[] G.c3) ∧ w'.cell? ⟨b, 4, none⟩ = some (.func G.g4 #[] G.c4) ∧ w'.cell? ⟨b, 5, none⟩ = some (.int .i8 3) ∧ w'.cell? ⟨b, 6, none⟩ = some (.map none) ∧ w'.cell? ⟨Hb, 0, none⟩ = some (.int .i32 (m : Int)) ∧ w'.cell? ⟨L, 0, none⟩ = some (.int .i32 (kp : Int))) (go_keep)
            (first
              | (go_at_call 120; refine (TM.out _ _ (HL.out.fr BA.out.drew) (HX2.out.fr (Fr.of BA.out.drew) (Nat.le_refl _))).mono ?_; rintro e w3 ⟨⟨g, rfl⟩, P3, q1, q2, q3, q4⟩; obtain ⟨i1, i2, i3, i4, i5, i6⟩ := q2.c16 q1; have KH3 := (q4.block Hb (Array.getElem?_eq_some_iff.1 KH'.out).1 HBN.out).trans KH'.out; have KL3 := (q4.block L (Array.getElem?_eq_some_iff.1 KL'.out).1 hLb).trans KL'.out; have i7 : w3.cell? ⟨Hb, 0, none⟩ = some (.int .i32 (m : Int)) := (by rw [Lib.cell_of_heap KH3]; rfl); have i8 : w3.cell? ⟨L, 0, none⟩ = some (.int .i32 (kp : Int)) := (by rw [Lib.cell_of_heap KL3]; rfl); have Q1 := Lib.hid q1; have Q2 := Lib.hid q2; have Q4 := Lib.hid q4; clear q1 q2 q3 q4; have KH3 := Lib.hid KH3; have KL3 := Lib.hid KL3)
              | (go_at_call 138; generalize hw4 : World.alloc w3 _ = w4; have BL := Lib.hid (show Below w3.heap.size w3 w4 by rw [← hw4]; exact (Below.refl _ _).alloc (Nat.le_refl _) _); clear hw4; refine (TI.out P3 _ _ _ _ w4 (Q1.out.fr BL.out) (Q2.out.fr (Fr.of BL.out) (Nat.le_refl _))).mono ?_; rintro e w5 ⟨rfl, P5, S5, q1, q2, q3, q4, q5⟩; obtain ⟨i1, i2, i3, i4, i5, i6⟩ := q2.c16 q1; have KH4 := (BL.out.block Hb (Array.getElem?_eq_some_iff.1 KH3.out).1).trans KH3.out; have KL4 := (BL.out.block L (Array.getElem?_eq_some_iff.1 KL3.out).1).trans KL3.out; have KH5 := (q4.block Hb (Array.getElem?_eq_some_iff.1 KH4).1 (fun hh => NB.out Hb hh (by rw [← HSZ.out]; exact Nat.le_refl _))).trans KH4; have KL5 := (q4.block L (Array.getElem?_eq_some_iff.1 KL4).1 (fun hh => NB.out L hh HLw.out)).trans KL4; have i7 : w5.cell? ⟨Hb, 0, none⟩ = some (.int .i32 (m : Int)) := (by rw [Lib.cell_of_heap KH5]; rfl); have i8 : w5.cell? ⟨L, 0, none⟩ = some (.int .i32 (kp : Int)) := (by rw [Lib.cell_of_heap KL5]; rfl); clear KH4 KL4 KH5 KL5; have FF := Lib.hid ((((FB.out.trans HF.out).trans (Fr.of BA.out.drew)).trans Q4.out).trans (Fr.of BL.out)); have H5 := Lib.hid q1; have QQ := Lib.hid (show LxP b G s r' st uo kd fl cs S w w5 from ⟨P5, S5, q1, by rw [KPZ.out]; exact q2, (FF.out.fx HX.out.own).trans q4 (fun _ hi => .inl hi), fun i hi => (q5 i hi).elim .inl fun h => .inr (Nat.le_trans FF.out.size h)⟩); clear FF q1 q2 q3 q4 q5))
          go_wp2_with fail
          rw [Exit.noGoto_ret]
          go_ret
          exact ⟨rfl, by rw [← RR.out]; exact QQ.out⟩
        · have hl1 : (tlB r').length < r'.length := tl_lt rfl g2
          by_cases g3 : spB (hdB r') = true
          · obtain ⟨T, hT⟩ : ∃ T, spcB (tlB r') = T := ⟨_, rfl⟩
            have hTl : T.length ≤ r'.length := by rw [← hT]; have := spcB_le (tlB r'); omega
            have HT := Lib.hid hT
            have U1 := Lib.hid (show hdB T = 41 → K0 = 37 ∧ tlB T = R from fun g4 => H37.out _ _ _ (by rw [← HXX.out]; exact urlB_end (r := r') (a := (some (false, tlB T), [])) (by unfold urlStep; rw [if_neg g1, if_neg g2, if_pos g3, hT, if_pos g4])))
            have U2 := Lib.hid (show hdB T = -1 → K0 = 37 ∧ T = R from fun g5 => H37.out _ _ _ (by rw [← HXX.out]; exact urlB_end (r := r') (a := (some (true, T), [])) (by unfold urlStep; rw [if_neg g1, if_neg g2, if_pos g3, hT, if_neg (by rw [g5]; decide), if_pos g5])))
            have U3 := Lib.hid (show hdB T ≠ 41 → hdB T ≠ -1 → x = (none, T) from fun g4 g5 => by rw [← HXX.out]; exact urlB_end (r := r') (a := (none, T)) (by unfold urlStep; rw [if_neg g1, if_neg g2, if_pos g3, hT, if_neg g4, if_neg g5]))
            have g5 : hdB r' = 10 ∨ hdB r' = 13 ∨ hdB r' = 12 ∨ hdB r' = 9 ∨ hdB r' = 32 := of_decide_eq_true g3
            have AT := Lib.hid hkA.tail
            have BT := Lib.hid (bd_behind hkA (by omega))
            have LT1 := Lib.hid (show (tlB r').length ≤ r.length by have := HLEN.out; omega)
            obtain ⟨cq, hcq⟩ : ∃ cq, hdB r' = cq := ⟨_, rfl⟩
            rw [hcq] at d35 g5
            clear g1 g2 g3 hT hcq hl1 hkA hks hkw hsz c36 c37 hTl
            go_upto_if 68 with fail
            go_cut [68] from 69 to 73 (fun v wx => v = .bool true ∧ wx = wr)
            case first =>
              rcases g5 with rfl | rfl | rfl | rfl | rfl
              all_goals
                go_wp2_with fail
                go_meet
                exact ⟨rfl, rfl⟩
            case rest =>
              obtain ⟨rfl, rfl⟩ := hcut
              go_wp2_with fail
              refine (S2.out).mono ?_
              rintro e w2 ⟨rfl, h2, f2⟩
              have H2 := Lib.hid h2
              have F2 := Lib.hid (HF.out.trans f2)
              clear h2 f2 d35
              go_wp2_with fail
              clear S2 V2 E2 QT HL M
              go_loopw [] (fun wr => WRelG b P s st uo kd fl wB T r.length wr) (fun wr => leftI b s wr)
              case atStart => exact ⟨_, _, H2.out, F2.out, HT.out, LT1.out, AT.out, BT.out⟩
              case round =>
                obtain ⟨r2, kp, hL2, hF2, hx2, hle2, hkA, hbp⟩ := hrel
                obtain ⟨kp', hkA', hks, hkw, hsz, -, -, d35, c36, c37⟩ := hL2.reads
                obtain rfl := hkA.unique hkA'
                have M2 := Lib.hid hL2.left
                have HL2 := Lib.hid hL2
                have HF2 := Lib.hid hF2
                have HLEN := Lib.hid hle2
                have BP := Lib.hid hbp
                have S3 := Lib.hid (ST.out _ _ _ hL2)
                have W := Lib.hid (fun w => lexSpace (hdB r2) w)
                obtain ⟨cq2, hcq2⟩ : ∃ cq, hdB r2 = cq := ⟨_, rfl⟩
                rw [hcq2] at d35 W
                have HC2 := Lib.hid hcq2
                clear hL2 hF2 hle2 hbp hkA' hcq2
                by_cases g7 : spB cq2 = true
                · have X2 := Lib.hid (show spcB (tlB r2) = T by rw [← spcB_go (r := r2) (by rw [HC2.out]; exact g7)]; exact hx2)
                  have L3 := Lib.hid (show (tlB r2).length < r2.length from tl_lt rfl (by rw [HC2.out]; intro e; rw [e] at g7; exact absurd g7 (by decide)))
                  have AT2 := Lib.hid hkA.tail
                  have BT2 := Lib.hid (bd_behind hkA (by rw [HC2.out]; have := of_decide_eq_true g7; omega))
                  rw [g7] at W
                  clear g7 hx2 hkA hks hkw hsz c36 c37
                  go_wp2_with (go_at_call 62; refine (W.out _).mono ?_; rintro e w' ⟨rfl, rfl⟩)
                  refine (S3.out).mono ?_
                  rintro e w4 ⟨rfl, h4, f4⟩
                  have H4 := Lib.hid h4
                  have F4 := Lib.hid (HF2.out.trans f4)
                  clear h4 f4 d35
                  go_wp2_with fail
                  go_roundw
                  case rel => exact ⟨_, _, H4.out, F4.out, X2.out, by have := L3.out; have := HLEN.out; omega, AT2.out, BT2.out⟩
                  case measure => rw [H4.out.left, M2.out]; exact L3.out
                · have g8 := Bool.eq_false_iff.2 g7
                  have e3 : r2 = T := by rw [← spcB_stop (r := r2) (by rw [HC2.out]; exact g8)]; exact hx2
                  subst e3
                  rw [g8] at W
                  clear g7 g8 hx2
                  by_cases g9 : cq2 = 41
                  · obtain ⟨rfl, hR⟩ := U1.out (by rw [HC2.out]; exact g9)
                    have RR := Lib.hid hR
                    subst g9
                    clear hR hkA hks hkw hsz c36 c37
                    go_wp2_with (go_at_call 62; refine (W.out _).mono ?_; rintro e w' ⟨rfl, rfl⟩)
                    refine (S3.out).mono ?_
                    rintro e w4 ⟨rfl, h4, f4⟩
                    go_wp2_with fail
                    rw [Exit.noGoto_ret]
                    go_ret
                    exact ⟨rfl, by rw [← RR.out]; exact LxP.quiet HX.out h4 ((FB.out.trans HF2.out).trans f4) (by have := HM.out; have := HLEN.out; have := tlB_le r2; omega)⟩
                  · have t1 : (cq2 == 41) = false := beq_eq_false_iff_ne.2 g9
                    have KPZ := Lib.hid (show s.size - r2.length = kp by have := hkA.size; omega)
                    obtain ⟨hkm, hBm, hm⟩ := HM.out
                    have hkz := hkA.size
                    have hmk : m < kp := by have := HLEN.out; omega
                    have hkle := hkA.le
                    have E := Lib.hid (fun w => rangeEndI st kp w hks (by omega))
                    have HH := Lib.hid (show wr.heap[Hb]? = some (.cells #[.int .i32 (m : Int)] 53 (0, 0)) from (HF2.out.block Hb (Array.getElem?_eq_some_iff.1 HKB.out).1 HBN.out).trans HKB.out)
                    have HX2 := Lib.hid (HX.out.fr (k' := k) (FB.out.trans HF2.out) (Nat.le_refl _))
                    have TM := Lib.hid (fun (tx : ByteArray) w2 (hL2 : LR b P s r2 st uo kd fl w2) (hX2 : LxS b G s k cs S P w2) => tellM b G s r2 st k m uo kd fl 1 tx cs S P w2 hL2 hX2 hkm hBm (by decide) (by decide))
                    have TI := Lib.hid (fun (P2 : Nat → Option Value) (tx : ByteArray) (na : Option Addr) (nl nc : Nat) w2 (hL2 : LR b P2 s r2 st uo kd fl w2) (hX2 : LxS b G s m cs S P2 w2) => tellIDN b G s r2 st m kp kp uo kd fl 0 34 1 tx na nl nc cs S P2 w2 hL2 hX2 hmk (by omega) (Nat.le_refl _) hkle BP.out (by decide) (by decide))
                    unfold LogI.val logV at TI
                    have HKA := Lib.hid hkA
                    clear hkm hBm hm hkz hmk hkle hkA
                    go_upto_region 21 with (go_at_call 62; refine (W.out _).mono ?_; rintro e w' ⟨rfl, rfl⟩)
                    go_upto_region 23 with (go_at_call 35; refine (E.out _).mono ?_; rintro e w2 ⟨rfl, hb2⟩)
                    obtain ⟨L, hLz⟩ : ∃ H, w2.heap.size = H := ⟨_, rfl⟩
                    obtain ⟨wA, hwA⟩ : ∃ x, w2.alloc (.cells #[.int .i32 (kp : Int)] 53) = x := ⟨_, rfl⟩
                    have BA := Lib.hid (show Below wr.heap.size wr wA by rw [← hwA]; exact hb2.alloc hb2.size _)
                    have KL : wA.heap[L]? = some (.cells #[.int .i32 (kp : Int)] 53 (0, 0)) := by
                      have h := heap_alloc_new w2 (.cells #[.int .i32 (kp : Int)] 53)
                      rw [hwA, hLz] at h
                      exact h
                    have hLw : w.heap.size ≤ L := by have h1 := FB.out.size; have h2 := HF2.out.size; have h3 := (hb2).size; omega
                    have HLw := Lib.hid hLw
                    have hLb : L ≠ b := by omega
                    rw [hwA, hLz]
                    clear hb2 hwA hLz hLw
                    obtain ⟨d1, d2, d3, d4, d5, d6⟩ := HX2.out.c16 (HL2.out.fr BA.out)
                    have KH := (BA.out.block Hb (Array.getElem?_eq_some_iff.1 HH.out).1).trans HH.out
                    have d7 : wA.cell? ⟨Hb, 0, none⟩ = some (.int .i32 (m : Int)) := by rw [Lib.cell_of_heap KH]; rfl
                    have KH' := Lib.hid KH
                    clear KH
                    have d8 : wA.cell? ⟨L, 0, none⟩ = some (.int .i32 (kp : Int)) := by rw [Lib.cell_of_heap KL]; rfl
                    have KL' := Lib.hid KL
                    clear KL c36 c37 d35
                    go_region_held3 (fun w' => w'.cell? ⟨b, 1, none⟩ = some (.func (.func 71) #[] #[.pointer (some ⟨G.gk, 0, none⟩), .pointer (some ⟨G.gm, 0, none⟩), .pointer (some ⟨G.gh, 0, none⟩), .pointer (some ⟨G.gs, 0, none⟩)]) ∧ w'.cell? ⟨b, 2, none⟩ = some (.func G.g2 #[] G.c2) ∧ w'.cell? ⟨b, 3, none⟩ = some (.func G.g3 #[] G.c3) ∧ w'.cell? ⟨b, 4, none⟩ = some (.func G.g4 #[] G.c4) ∧ w'.cell? ⟨b, 5, none⟩ = some (.int .i8 3) ∧ w'.cell? ⟨b, 6, none⟩ = some (.map none) ∧ w'.cell? ⟨Hb, 0, none⟩ = some (.int .i32 (m : Int)) ∧ w'.cell? ⟨L, 0, none⟩ = some (.int .i32 (kp : Int))) (go_keep)
                      (first
                        | (go_at_call 120; refine (TM.out _ _ (HL2.out.fr BA.out.drew) (HX2.out.fr (Fr.of BA.out.drew) (Nat.le_refl _))).mono ?_; rintro e w3 ⟨⟨g, rfl⟩, P3, q1, q2, q3, q4⟩; obtain ⟨i1, i2, i3, i4, i5, i6⟩ := q2.c16 q1; have KH3 := (q4.block Hb (Array.getElem?_eq_some_iff.1 KH'.out).1 HBN.out).trans KH'.out; have KL3 := (q4.block L (Array.getElem?_eq_some_iff.1 KL'.out).1 hLb).trans KL'.out; have i7 : w3.cell? ⟨Hb, 0, none⟩ = some (.int .i32 (m : Int)) := (by rw [Lib.cell_of_heap KH3]; rfl); have i8 : w3.cell? ⟨L, 0, none⟩ = some (.int .i32 (kp : Int)) := (by rw [Lib.cell_of_heap KL3]; rfl); have Q1 := Lib.hid q1; have Q2 := Lib.hid q2; have Q4 := Lib.hid q4; clear q1 q2 q3 q4; have KH3 := Lib.hid KH3; have KL3 := Lib.hid KL3)
                        | (go_at_call 138; generalize hw4 : World.alloc w3 _ = w4; have BL := Lib.hid (show Below w3.heap.size w3 w4 by rw [← hw4]; exact (Below.refl _ _).alloc (Nat.le_refl _) _); clear hw4; refine (TI.out P3 _ _ _ _ w4 (Q1.out.fr BL.out) (Q2.out.fr (Fr.of BL.out) (Nat.le_refl _))).mono ?_; rintro e w5 ⟨rfl, P5, S5, q1, q2, q3, q4, q5⟩; obtain ⟨i1, i2, i3, i4, i5, i6⟩ := q2.c16 q1; have KH4 := (BL.out.block Hb (Array.getElem?_eq_some_iff.1 KH3.out).1).trans KH3.out; have KL4 := (BL.out.block L (Array.getElem?_eq_some_iff.1 KL3.out).1).trans KL3.out; have KH5 := (q4.block Hb (Array.getElem?_eq_some_iff.1 KH4).1 (fun hh => NB.out Hb hh (by rw [← HSZ.out]; exact Nat.le_refl _))).trans KH4; have KL5 := (q4.block L (Array.getElem?_eq_some_iff.1 KL4).1 (fun hh => NB.out L hh HLw.out)).trans KL4; have i7 : w5.cell? ⟨Hb, 0, none⟩ = some (.int .i32 (m : Int)) := (by rw [Lib.cell_of_heap KH5]; rfl); have i8 : w5.cell? ⟨L, 0, none⟩ = some (.int .i32 (kp : Int)) := (by rw [Lib.cell_of_heap KL5]; rfl); clear KH4 KL4 KH5 KL5; have FF := Lib.hid ((((FB.out.trans HF2.out).trans (Fr.of BA.out.drew)).trans Q4.out).trans (Fr.of BL.out)); have H5 := Lib.hid q1; have QQ := Lib.hid (show LxP b G s r2 st uo kd fl cs S w w5 from ⟨P5, S5, q1, by rw [KPZ.out]; exact q2, (FF.out.fx HX.out.own).trans q4 (fun _ hi => .inl hi), fun i hi => (q5 i hi).elim .inl fun h => .inr (Nat.le_trans FF.out.size h)⟩); clear FF q1 q2 q3 q4 q5))
                    by_cases g5 : cq2 = -1
                    · obtain ⟨rfl, hR⟩ := U2.out (by rw [HC2.out]; exact g5)
                      have RR := Lib.hid hR
                      obtain ⟨-, -, -, -, -, -, -, d35, -, -⟩ := H5.out.reads
                      rw [HC2.out, g5] at d35
                      clear hR
                      go_wp2_with fail
                      go_ret
                      exact ⟨rfl, by rw [← RR.out]; exact QQ.out⟩
                    · have XN := Lib.hid (U3.out (by rw [HC2.out]; exact g9) (by rw [HC2.out]; exact g5))
                      obtain ⟨-, -, -, -, -, -, -, d35, -, -⟩ := H5.out.reads
                      rw [HC2.out] at d35
                      have t2 : (cq2 == -1) = false := beq_eq_false_iff_ne.2 g5
                      go_wp2_with fail
                      go_meet
                      exact ⟨r2, XN.out, QQ.out⟩
          · by_cases g4 : hdB r' = 34 ∨ hdB r' = 39 ∨ hdB r' = 40
            · have XN := Lib.hid (show x = (none, r') by rw [← HXX.out]; exact urlB_end (r := r') (a := (none, r')) (by unfold urlStep; rw [if_neg g1, if_neg g2, if_neg g3, if_pos g4]))
              have BP := Lib.hid (bd_head hkA (by omega))
              have G4 := Lib.hid g4
              clear g1 g2 g3 g4 hl1
              rcases G4.out with g4 | g4 | g4
              all_goals
                rw [g4] at d35
                clear g4
                have KPZ := Lib.hid (show s.size - r'.length = kp by have := hkA.size; omega)
                obtain ⟨hkm, hBm, hm⟩ := HM.out
                have hkz := hkA.size
                have hmk : m < kp := by have := HLEN.out; omega
                have hkle := hkA.le
                have E := Lib.hid (fun w => rangeEndI st kp w hks (by omega))
                have HH := Lib.hid (show wr.heap[Hb]? = some (.cells #[.int .i32 (m : Int)] 53 (0, 0)) from (HF.out.block Hb (Array.getElem?_eq_some_iff.1 HKB.out).1 HBN.out).trans HKB.out)
                have HX2 := Lib.hid (HX.out.fr (k' := k) (FB.out.trans HF.out) (Nat.le_refl _))
                have TM := Lib.hid (fun (tx : ByteArray) w2 (hL2 : LR b P s r' st uo kd fl w2) (hX2 : LxS b G s k cs S P w2) => tellM b G s r' st k m uo kd fl 1 tx cs S P w2 hL2 hX2 hkm hBm (by decide) (by decide))
                have TI := Lib.hid (fun (P2 : Nat → Option Value) (tx : ByteArray) (na : Option Addr) (nl nc : Nat) w2 (hL2 : LR b P2 s r' st uo kd fl w2) (hX2 : LxS b G s m cs S P2 w2) => tellIDN b G s r' st m kp kp uo kd fl 1 34 1 tx na nl nc cs S P2 w2 hL2 hX2 hmk (by omega) (Nat.le_refl _) hkle BP.out (by decide) (by decide))
                unfold LogI.val logV at TI
                have HKA := Lib.hid hkA
                clear hkm hBm hm hkz hmk hkle hkA
                go_upto_region 32 with (go_at_call 35; refine (E.out _).mono ?_; rintro e w2 ⟨rfl, hb2⟩)
                obtain ⟨L, hLz⟩ : ∃ H, w2.heap.size = H := ⟨_, rfl⟩
                obtain ⟨wA, hwA⟩ : ∃ x, w2.alloc (.cells #[.int .i32 (kp : Int), .int .i32 1] 55) = x := ⟨_, rfl⟩
                have BA := Lib.hid (show Below wr.heap.size wr wA by rw [← hwA]; exact hb2.alloc hb2.size _)
                have KL : wA.heap[L]? = some (.cells #[.int .i32 (kp : Int), .int .i32 1] 55 (0, 0)) := by
                  have h := heap_alloc_new w2 (.cells #[.int .i32 (kp : Int), .int .i32 1] 55)
                  rw [hwA, hLz] at h
                  exact h
                have hLw : w.heap.size ≤ L := by have h1 := FB.out.size; have h2 := HF.out.size; have h3 := (hb2).size; omega
                have HLw := Lib.hid hLw
                have hLb : L ≠ b := by omega
                rw [hwA, hLz]
                clear hb2 hwA hLz hLw
                obtain ⟨d1, d2, d3, d4, d5, d6⟩ := HX2.out.c16 (HL.out.fr BA.out)
                have KH := (BA.out.block Hb (Array.getElem?_eq_some_iff.1 HH.out).1).trans HH.out
                have d7 : wA.cell? ⟨Hb, 0, none⟩ = some (.int .i32 (m : Int)) := by rw [Lib.cell_of_heap KH]; rfl
                have KH' := Lib.hid KH
                clear KH
                have d8 : wA.cell? ⟨L, 0, none⟩ = some (.int .i32 (kp : Int)) := by rw [Lib.cell_of_heap KL]; rfl
                have d9 : wA.cell? ⟨L, 1, none⟩ = some (.int .i32 1) := by rw [Lib.cell_of_heap KL]; rfl
                have KL' := Lib.hid KL
                clear KL c36 c37 d35
                go_region_held3 (fun w' => w'.cell? ⟨b, 1, none⟩ = some (.func (.func 71) #[] #[.pointer (some ⟨G.gk, 0, none⟩), .pointer (some ⟨G.gm, 0, none⟩), .pointer (some ⟨G.gh, 0, none⟩), .pointer (some ⟨G.gs, 0, none⟩)]) ∧ w'.cell? ⟨b, 2, none⟩ = some (.func G.g2 #[] G.c2) ∧ w'.cell? ⟨b, 3, none⟩ = some (.func G.g3 #[] G.c3) ∧ w'.cell? ⟨b, 4, none⟩ = some (.func G.g4 #[] G.c4) ∧ w'.cell? ⟨b, 5, none⟩ = some (.int .i8 3) ∧ w'.cell? ⟨b, 6, none⟩ = some (.map none) ∧ w'.cell? ⟨Hb, 0, none⟩ = some (.int .i32 (m : Int)) ∧ w'.cell? ⟨L, 0, none⟩ = some (.int .i32 (kp : Int)) ∧ w'.cell? ⟨L, 1, none⟩ = some (.int .i32 1)) (go_keep)
                  (first
                    | (go_at_call 120; refine (TM.out _ _ (HL.out.fr BA.out.drew) (HX2.out.fr (Fr.of BA.out.drew) (Nat.le_refl _))).mono ?_; rintro e w3 ⟨⟨g, rfl⟩, P3, q1, q2, q3, q4⟩; obtain ⟨i1, i2, i3, i4, i5, i6⟩ := q2.c16 q1; have KH3 := (q4.block Hb (Array.getElem?_eq_some_iff.1 KH'.out).1 HBN.out).trans KH'.out; have KL3 := (q4.block L (Array.getElem?_eq_some_iff.1 KL'.out).1 hLb).trans KL'.out; have i7 : w3.cell? ⟨Hb, 0, none⟩ = some (.int .i32 (m : Int)) := (by rw [Lib.cell_of_heap KH3]; rfl); have i8 : w3.cell? ⟨L, 0, none⟩ = some (.int .i32 (kp : Int)) := (by rw [Lib.cell_of_heap KL3]; rfl); have i9 : w3.cell? ⟨L, 1, none⟩ = some (.int .i32 1) := (by rw [Lib.cell_of_heap KL3]; rfl); have Q1 := Lib.hid q1; have Q2 := Lib.hid q2; have Q4 := Lib.hid q4; clear q1 q2 q3 q4; have KH3 := Lib.hid KH3; have KL3 := Lib.hid KL3)
                    | (go_at_call 138; generalize hw4 : World.alloc w3 _ = w4; have BL := Lib.hid (show Below w3.heap.size w3 w4 by rw [← hw4]; exact (Below.refl _ _).alloc (Nat.le_refl _) _); clear hw4; refine (TI.out P3 _ _ _ _ w4 (Q1.out.fr BL.out) (Q2.out.fr (Fr.of BL.out) (Nat.le_refl _))).mono ?_; rintro e w5 ⟨rfl, P5, S5, q1, q2, q3, q4, q5⟩; obtain ⟨i1, i2, i3, i4, i5, i6⟩ := q2.c16 q1; have KH4 := (BL.out.block Hb (Array.getElem?_eq_some_iff.1 KH3.out).1).trans KH3.out; have KL4 := (BL.out.block L (Array.getElem?_eq_some_iff.1 KL3.out).1).trans KL3.out; have KH5 := (q4.block Hb (Array.getElem?_eq_some_iff.1 KH4).1 (fun hh => NB.out Hb hh (by rw [← HSZ.out]; exact Nat.le_refl _))).trans KH4; have KL5 := (q4.block L (Array.getElem?_eq_some_iff.1 KL4).1 (fun hh => NB.out L hh HLw.out)).trans KL4; have i7 : w5.cell? ⟨Hb, 0, none⟩ = some (.int .i32 (m : Int)) := (by rw [Lib.cell_of_heap KH5]; rfl); have i8 : w5.cell? ⟨L, 0, none⟩ = some (.int .i32 (kp : Int)) := (by rw [Lib.cell_of_heap KL5]; rfl); have i9 : w5.cell? ⟨L, 1, none⟩ = some (.int .i32 1) := (by rw [Lib.cell_of_heap KL5]; rfl); clear KH4 KL4 KH5 KL5; have FF := Lib.hid ((((FB.out.trans HF.out).trans (Fr.of BA.out.drew)).trans Q4.out).trans (Fr.of BL.out)); have H5 := Lib.hid q1; have QQ := Lib.hid (show LxP b G s r' st uo kd fl cs S w w5 from ⟨P5, S5, q1, by rw [KPZ.out]; exact q2, (FF.out.fx HX.out.own).trans q4 (fun _ hi => .inl hi), fun i hi => (q5 i hi).elim .inl fun h => .inr (Nat.le_trans FF.out.size h)⟩); clear FF q1 q2 q3 q4 q5))
                go_wp2_with fail
                go_meet
                exact ⟨r', XN.out, QQ.out⟩
            · by_cases g5 : hdB r' = 92
              · cases hv : vescB r' with
                | false =>
                  have XN := Lib.hid (show x = (none, r') by rw [← HXX.out]; exact urlB_end (r := r') (a := (none, r')) (by unfold urlStep; rw [if_neg g1, if_neg g2, if_neg g3, if_neg g4, if_pos g5, if_neg (by rw [hv]; decide)]))
                  have BP := Lib.hid (bd_head hkA (by rw [g5]; decide))
                  rw [hv] at V2
                  rw [g5] at d35
                  clear g1 g2 g3 g4 g5 hl1 hv
                  have KPZ := Lib.hid (show s.size - r'.length = kp by have := hkA.size; omega)
                  obtain ⟨hkm, hBm, hm⟩ := HM.out
                  have hkz := hkA.size
                  have hmk : m < kp := by have := HLEN.out; omega
                  have hkle := hkA.le
                  have E := Lib.hid (fun w => rangeEndI st kp w hks (by omega))
                  have HX2 := Lib.hid (HX.out.fr (k' := k) (FB.out.trans HF.out) (Nat.le_refl _))
                  have TI := Lib.hid (fun (tx : ByteArray) w2 (hL2 : LR b P s r' st uo kd fl w2) (hX2 : LxS b G s k cs S P w2) => tellID b G s r' st k kp kp uo kd fl 1 34 1 tx cs S P w2 hL2 hX2 (by omega) (by omega) (Nat.le_refl _) hkle BP.out (by decide) (by decide))
                  unfold LogI.val logV at TI
                  have HKA := Lib.hid hkA
                  clear hkm hBm hm hkz hmk hkle hkA
                  go_upto_region 35 with (go_at_call 97; refine (V2.out).mono ?_; rintro e w1 ⟨rfl, hb1⟩)
                  obtain ⟨j36, j37⟩ := (HL.out.fr hb1).c3637 HKA.out
                  go_upto_region 36 with (go_at_call 35; refine (E.out _).mono ?_; rintro e w2 ⟨rfl, hb2⟩)
                  obtain ⟨L, hLz⟩ : ∃ H, w2.heap.size = H := ⟨_, rfl⟩
                  obtain ⟨wA, hwA⟩ : ∃ x, w2.alloc (.cells #[.int .i32 (kp : Int), .int .i32 1] 55) = x := ⟨_, rfl⟩
                  have BA := Lib.hid (show Below wr.heap.size wr wA by rw [← hwA]; exact (hb1.trans (hb2.mono hb1.size)).alloc (hb1.trans (hb2.mono hb1.size)).size _)
                  have KL : wA.heap[L]? = some (.cells #[.int .i32 (kp : Int), .int .i32 1] 55 (0, 0)) := by
                    have h := heap_alloc_new w2 (.cells #[.int .i32 (kp : Int), .int .i32 1] 55)
                    rw [hwA, hLz] at h
                    exact h
                  have hLw : w.heap.size ≤ L := by have h1 := FB.out.size; have h2 := HF.out.size; have h3 := ((hb1.trans (hb2.mono hb1.size))).size; omega
                  have HLw := Lib.hid hLw
                  have hLb : L ≠ b := by omega
                  rw [hwA, hLz]
                  clear hb2 hwA hLz hLw
                  obtain ⟨d1, d2, d3, d4, d5, d6⟩ := HX2.out.c16 (HL.out.fr BA.out)
                  have d8 : wA.cell? ⟨L, 0, none⟩ = some (.int .i32 (kp : Int)) := by rw [Lib.cell_of_heap KL]; rfl
                  have d9 : wA.cell? ⟨L, 1, none⟩ = some (.int .i32 1) := by rw [Lib.cell_of_heap KL]; rfl
                  have KL' := Lib.hid KL
                  clear KL c36 c37 d35
                  go_region_held3 (fun w' => w'.cell? ⟨b, 1, none⟩ = some (.func (.func 71) #[] #[.pointer (some ⟨G.gk, 0, none⟩), .pointer (some ⟨G.gm, 0, none⟩), .pointer (some ⟨G.gh, 0, none⟩), .pointer (some ⟨G.gs, 0, none⟩)]) ∧ w'.cell? ⟨b, 2, none⟩ = some (.func G.g2 #[] G.c2) ∧ w'.cell? ⟨b, 3, none⟩ = some (.func G.g3 #[] G.c3) ∧ w'.cell? ⟨b, 4, none⟩ = some (.func G.g4 #[] G.c4) ∧ w'.cell? ⟨b, 5, none⟩ = some (.int .i8 3) ∧ w'.cell? ⟨b, 6, none⟩ = some (.map none) ∧ w'.cell? ⟨L, 0, none⟩ = some (.int .i32 (kp : Int)) ∧ w'.cell? ⟨L, 1, none⟩ = some (.int .i32 1)) (go_keep)
                    (first
                      | (go_at_call 94; refine (TI.out _ _ (HL.out.fr BA.out.drew) (HX2.out.fr (Fr.of BA.out.drew) (Nat.le_refl _))).mono ?_; rintro e w5 ⟨rfl, P5, S5, q1, q2, q3, q4, q5⟩; obtain ⟨i1, i2, i3, i4, i5, i6⟩ := q2.c16 q1; have KL5 := (q4.block L (Array.getElem?_eq_some_iff.1 KL'.out).1 (fun hh => NB.out L hh HLw.out)).trans KL'.out; have i8 : w5.cell? ⟨L, 0, none⟩ = some (.int .i32 (kp : Int)) := (by rw [Lib.cell_of_heap KL5]; rfl); have i9 : w5.cell? ⟨L, 1, none⟩ = some (.int .i32 1) := (by rw [Lib.cell_of_heap KL5]; rfl); clear KL5; have FF := Lib.hid ((FB.out.trans HF.out).trans (Fr.of BA.out.drew)); have H5 := Lib.hid q1; have QQ := Lib.hid (show LxP b G s r' st uo kd fl cs S w w5 from ⟨P5, S5, q1, by rw [KPZ.out]; exact q2, (FF.out.fx HX.out.own).trans q4 (fun _ hi => .inl hi), fun i hi => (q5 i hi).elim .inl fun h => .inr (Nat.le_trans FF.out.size h)⟩); clear FF q1 q2 q3 q4 q5))
                  go_wp2_with fail
                  go_meet
                  exact ⟨r', XN.out, QQ.out⟩
                | true =>
                  have e1 := urlB_go (r := r') (y := (escV r').2) (by unfold urlStep; rw [if_neg g1, if_neg g2, if_neg g3, if_neg g4, if_pos g5, if_pos hv])
                  have X2 := Lib.hid (show urlB (escV r').2 = x by rw [← e1]; exact HXX.out)
                  have L3 := Lib.hid (show (escV r').2.length < r'.length by have := escV_le r'; omega)
                  rw [g5] at d35
                  rw [hv] at V2
                  clear g1 g2 g3 g4 g5 e1 hv hl1 hkA hks hkw hsz c36 c37
                  go_wp2_with fail
                  refine (V2.out).mono ?_
                  rintro e w2 ⟨rfl, hb2⟩
                  have H2 := Lib.hid (HL.out.fr hb2)
                  have F2 := Lib.hid (HF.out.trans (Fr.of hb2))
                  clear hb2
                  go_wp2_with fail
                  refine (E2.out _ H2.out).mono ?_
                  rintro e w3 ⟨rfl, h3, f3⟩
                  have H3' := Lib.hid h3
                  have F3 := Lib.hid (F2.out.trans f3)
                  clear h3 f3 d35
                  go_wp2_with fail
                  go_roundw
                  case rel => exact ⟨_, H3'.out, F3.out, X2.out, by have := L3.out; have := HLEN.out; omega⟩
                  case measure => rw [H3'.out.left, M.out]; exact L3.out
              · cases hv : unpB (hdB r') with
                | true =>
                  have XN := Lib.hid (show x = (none, r') by rw [← HXX.out]; exact urlB_end (r := r') (a := (none, r')) (by unfold urlStep; rw [if_neg g1, if_neg g2, if_neg g3, if_neg g4, if_neg g5, if_pos hv]))
                  have BP := Lib.hid (bd_head hkA (by have := of_decide_eq_true hv; omega))
                  have g0 := (hdB_range r').1
                  have NP := Lib.hid (fun w => lexUnprintable (hdB r') w (by omega))
                  have g6 : ¬ (hdB r' = 10 ∨ hdB r' = 13 ∨ hdB r' = 12 ∨ hdB r' = 9 ∨ hdB r' = 32) := of_decide_eq_false (Bool.eq_false_iff.2 g3)
                  rw [hv] at NP
                  obtain ⟨cq, hcq⟩ : ∃ cq, hdB r' = cq := ⟨_, rfl⟩
                  rw [hcq] at d35 NP g1 g2 g4 g5 g6
                  have t1 : (cq == 41) = false := beq_eq_false_iff_ne.2 g1
                  have t2 : (cq == -1) = false := beq_eq_false_iff_ne.2 g2
                  have t3 : (cq == 92) = false := beq_eq_false_iff_ne.2 g5
                  have t4 : (cq == 34) = false := beq_eq_false_iff_ne.2 (fun e => g4 (.inl e))
                  have t5 : (cq == 39) = false := beq_eq_false_iff_ne.2 (fun e => g4 (.inr (.inl e)))
                  have t6 : (cq == 40) = false := beq_eq_false_iff_ne.2 (fun e => g4 (.inr (.inr e)))
                  have t7 : (cq == 10) = false := beq_eq_false_iff_ne.2 (fun e => g6 (.inl e))
                  have t8 : (cq == 13) = false := beq_eq_false_iff_ne.2 (fun e => g6 (.inr (.inl e)))
                  have t9 : (cq == 12) = false := beq_eq_false_iff_ne.2 (fun e => g6 (.inr (.inr (.inl e))))
                  have t10 : (cq == 9) = false := beq_eq_false_iff_ne.2 (fun e => g6 (.inr (.inr (.inr (.inl e)))))
                  have t11 : (cq == 32) = false := beq_eq_false_iff_ne.2 (fun e => g6 (.inr (.inr (.inr (.inr e)))))
                  clear g0 g1 g2 g3 g4 g5 g6 hv hl1 hcq
                  have KPZ := Lib.hid (show s.size - r'.length = kp by have := hkA.size; omega)
                  obtain ⟨hkm, hBm, hm⟩ := HM.out
                  have hkz := hkA.size
                  have hmk : m < kp := by have := HLEN.out; omega
                  have hkle := hkA.le
                  have E := Lib.hid (fun w => rangeEndI st kp w hks (by omega))
                  have HX2 := Lib.hid (HX.out.fr (k' := k) (FB.out.trans HF.out) (Nat.le_refl _))
                  have TI := Lib.hid (fun (tx : ByteArray) w2 (hL2 : LR b P s r' st uo kd fl w2) (hX2 : LxS b G s k cs S P w2) => tellID b G s r' st k kp kp uo kd fl 1 34 1 tx cs S P w2 hL2 hX2 (by omega) (by omega) (Nat.le_refl _) hkle BP.out (by decide) (by decide))
                  unfold LogI.val logV at TI
                  have HKA := Lib.hid hkA
                  clear hkm hBm hm hkz hmk hkle hkA
                  go_upto_region 3 with (go_at_call 139; refine (NP.out _).mono ?_; rintro e w1 ⟨rfl, rfl⟩)
                  go_upto_region 4 with (go_at_call 35; refine (E.out _).mono ?_; rintro e w2 ⟨rfl, hb2⟩)
                  obtain ⟨L, hLz⟩ : ∃ H, w2.heap.size = H := ⟨_, rfl⟩
                  obtain ⟨wA, hwA⟩ : ∃ x, w2.alloc (.cells #[.int .i32 (kp : Int), .int .i32 1] 55) = x := ⟨_, rfl⟩
                  have BA := Lib.hid (show Below wr.heap.size wr wA by rw [← hwA]; exact hb2.alloc hb2.size _)
                  have KL : wA.heap[L]? = some (.cells #[.int .i32 (kp : Int), .int .i32 1] 55 (0, 0)) := by
                    have h := heap_alloc_new w2 (.cells #[.int .i32 (kp : Int), .int .i32 1] 55)
                    rw [hwA, hLz] at h
                    exact h
                  have hLw : w.heap.size ≤ L := by have h1 := FB.out.size; have h2 := HF.out.size; have h3 := (hb2).size; omega
                  have HLw := Lib.hid hLw
                  have hLb : L ≠ b := by omega
                  rw [hwA, hLz]
                  clear hb2 hwA hLz hLw
                  obtain ⟨d1, d2, d3, d4, d5, d6⟩ := HX2.out.c16 (HL.out.fr BA.out)
                  have d8 : wA.cell? ⟨L, 0, none⟩ = some (.int .i32 (kp : Int)) := by rw [Lib.cell_of_heap KL]; rfl
                  have d9 : wA.cell? ⟨L, 1, none⟩ = some (.int .i32 1) := by rw [Lib.cell_of_heap KL]; rfl
                  have KL' := Lib.hid KL
                  clear KL c36 c37 d35
                  go_region_held3 (fun w' => w'.cell? ⟨b, 1, none⟩ = some (.func (.func 71) #[] #[.pointer (some ⟨G.gk, 0, none⟩), .pointer (some ⟨G.gm, 0, none⟩), .pointer (some ⟨G.gh, 0, none⟩), .pointer (some ⟨G.gs, 0, none⟩)]) ∧ w'.cell? ⟨b, 2, none⟩ = some (.func G.g2 #[] G.c2) ∧ w'.cell? ⟨b, 3, none⟩ = some (.func G.g3 #[] G.c3) ∧ w'.cell? ⟨b, 4, none⟩ = some (.func G.g4 #[] G.c4) ∧ w'.cell? ⟨b, 5, none⟩ = some (.int .i8 3) ∧ w'.cell? ⟨b, 6, none⟩ = some (.map none) ∧ w'.cell? ⟨L, 0, none⟩ = some (.int .i32 (kp : Int)) ∧ w'.cell? ⟨L, 1, none⟩ = some (.int .i32 1)) (go_keep)
                    (first
                      | (go_at_call 94; refine (TI.out _ _ (HL.out.fr BA.out.drew) (HX2.out.fr (Fr.of BA.out.drew) (Nat.le_refl _))).mono ?_; rintro e w5 ⟨rfl, P5, S5, q1, q2, q3, q4, q5⟩; obtain ⟨i1, i2, i3, i4, i5, i6⟩ := q2.c16 q1; have KL5 := (q4.block L (Array.getElem?_eq_some_iff.1 KL'.out).1 (fun hh => NB.out L hh HLw.out)).trans KL'.out; have i8 : w5.cell? ⟨L, 0, none⟩ = some (.int .i32 (kp : Int)) := (by rw [Lib.cell_of_heap KL5]; rfl); have i9 : w5.cell? ⟨L, 1, none⟩ = some (.int .i32 1) := (by rw [Lib.cell_of_heap KL5]; rfl); clear KL5; have FF := Lib.hid ((FB.out.trans HF.out).trans (Fr.of BA.out.drew)); have H5 := Lib.hid q1; have QQ := Lib.hid (show LxP b G s r' st uo kd fl cs S w w5 from ⟨P5, S5, q1, by rw [KPZ.out]; exact q2, (FF.out.fx HX.out.own).trans q4 (fun _ hi => .inl hi), fun i hi => (q5 i hi).elim .inl fun h => .inr (Nat.le_trans FF.out.size h)⟩); clear FF q1 q2 q3 q4 q5))
                  go_wp2_with fail
                  go_meet
                  exact ⟨r', XN.out, QQ.out⟩
                | false =>
                  have e1 := urlB_go (r := r') (y := tlB r') (by unfold urlStep; rw [if_neg g1, if_neg g2, if_neg g3, if_neg g4, if_neg g5, if_neg (by rw [hv]; decide)])
                  have X2 := Lib.hid (show urlB (tlB r') = x by rw [← e1]; exact HXX.out)
                  have L3 := Lib.hid hl1
                  have g0 := (hdB_range r').1
                  have NP := Lib.hid (fun w => lexUnprintable (hdB r') w (by omega))
                  have g6 : ¬ (hdB r' = 10 ∨ hdB r' = 13 ∨ hdB r' = 12 ∨ hdB r' = 9 ∨ hdB r' = 32) := of_decide_eq_false (Bool.eq_false_iff.2 g3)
                  rw [hv] at NP
                  obtain ⟨cq, hcq⟩ : ∃ cq, hdB r' = cq := ⟨_, rfl⟩
                  rw [hcq] at d35 NP g1 g2 g4 g5 g6
                  have t1 : (cq == 41) = false := beq_eq_false_iff_ne.2 g1
                  have t2 : (cq == -1) = false := beq_eq_false_iff_ne.2 g2
                  have t3 : (cq == 92) = false := beq_eq_false_iff_ne.2 g5
                  have t4 : (cq == 34) = false := beq_eq_false_iff_ne.2 (fun e => g4 (.inl e))
                  have t5 : (cq == 39) = false := beq_eq_false_iff_ne.2 (fun e => g4 (.inr (.inl e)))
                  have t6 : (cq == 40) = false := beq_eq_false_iff_ne.2 (fun e => g4 (.inr (.inr e)))
                  have t7 : (cq == 10) = false := beq_eq_false_iff_ne.2 (fun e => g6 (.inl e))
                  have t8 : (cq == 13) = false := beq_eq_false_iff_ne.2 (fun e => g6 (.inr (.inl e)))
                  have t9 : (cq == 12) = false := beq_eq_false_iff_ne.2 (fun e => g6 (.inr (.inr (.inl e))))
                  have t10 : (cq == 9) = false := beq_eq_false_iff_ne.2 (fun e => g6 (.inr (.inr (.inr (.inl e)))))
                  have t11 : (cq == 32) = false := beq_eq_false_iff_ne.2 (fun e => g6 (.inr (.inr (.inr (.inr e)))))
                  clear g0 g1 g2 g3 g4 g5 g6 e1 hv hl1 hcq hkA hks hkw hsz c36 c37
                  go_wp2_with (go_at_call 139; refine (NP.out _).mono ?_; rintro e w' ⟨rfl, rfl⟩)
                  refine (S2.out).mono ?_
                  rintro e w2 ⟨rfl, h2, f2⟩
                  have H2 := Lib.hid h2
                  have F2 := Lib.hid (HF.out.trans f2)
                  clear h2 f2 d35
                  go_wp2_with fail
                  go_roundw
                  case rel => exact ⟨_, H2.out, F2.out, X2.out, by have := L3.out; have := HLEN.out; omega⟩
                  case measure => rw [H2.out.left, M.out]; exact L3.out
  case rest =>
    obtain ⟨X, hx, hc⟩ := hcut
    obtain ⟨rfl, hR⟩ := H3.out X hx
    have HC := Lib.hid hc
    have HR := Lib.hid hR
    clear hx hc hR H0 HU HX NB HM H37 H3
    go_wp2_with fail
    go_loopw [] (fun wr => BRelG b G s st uo kd fl cs S w R wr) (fun wr => leftI b s wr)
    case atStart => exact ⟨X, HC.out, HR.out⟩
    case round =>
      obtain ⟨r', ⟨P', S', hL, hXX, hFx, hS'⟩, hx⟩ := hrel
      obtain ⟨-, -, -, -, -, -, -, d35, -, -⟩ := hL.reads
      have M := Lib.hid hL.left
      have HL := Lib.hid hL
      have S2 := Lib.hid (ST.out _ _ _ hL)
      have V2 := Lib.hid (VE.out _ _ _ hL)
      have E2 := Lib.hid (fun w h => EV.out P' r' w h)
      have QT := Lib.hid (show ∀ (R' : List UInt8) (w2 : World), LR b P' s R' st uo kd fl w2 → Fr b wr w2 → R'.length ≤ r'.length → LxP b G s R' st uo kd fl cs S w w2 from fun R' w2 hL2 f2 hl2 => LxP.go hXX hFx hS' hL2 f2 hl2)
      have HXX := Lib.hid hx
      clear hL hXX hFx hS' hx
      by_cases g1 : hdB r' = 41 ∨ hdB r' = -1
      · have RR := Lib.hid (show tlB r' = R by rw [← HXX.out]; exact (badB_end (by unfold badStep; rw [if_pos g1])).symm)
        have G1 := Lib.hid g1
        clear g1
        rcases G1.out with g1 | g1
        all_goals
          rw [g1] at d35
          clear g1
          go_wp2_with fail
          refine (S2.out).mono ?_
          rintro e w2 ⟨rfl, h2, f2⟩
          go_wp2_with fail
          rw [Exit.noGoto_ret]
          go_ret
          exact ⟨rfl, by rw [← RR.out]; exact QT.out _ _ h2 f2 (tlB_le r')⟩
      · have hl1 : (tlB r').length < r'.length := tl_lt rfl (fun e => g1 (.inr e))
        by_cases g5 : hdB r' = 92
        · cases hv : vescB r' with
          | true =>
            have X2 := Lib.hid (show badB (tlB (escV r').2) = R by rw [← HXX.out]; exact (badB_go (by unfold badStep; rw [if_neg g1, if_pos hv])).symm)
            have L3 := Lib.hid (show (tlB (escV r').2).length < r'.length by have := escV_le r'; have := tlB_le (escV r').2; omega)
            rw [g5] at d35
            rw [hv] at V2
            clear g1 g5 hv hl1
            go_wp2_with fail
            refine (V2.out).mono ?_
            rintro e w2 ⟨rfl, hb2⟩
            have H2 := Lib.hid (HL.out.fr hb2)
            have F2 := Lib.hid (Fr.of (b := b) hb2)
            clear hb2
            go_wp2_with fail
            refine (E2.out _ H2.out).mono ?_
            rintro e w3 ⟨rfl, h3, f3⟩
            have S3 := Lib.hid (ST.out _ _ _ h3)
            have F3 := Lib.hid (F2.out.trans f3)
            clear h3 f3 d35
            go_wp2_with fail
            refine (S3.out).mono ?_
            rintro e w4 ⟨rfl, h4, f4⟩
            have H4 := Lib.hid h4
            have F4 := Lib.hid (F3.out.trans f4)
            clear h4 f4
            go_wp2_with fail
            go_roundw
            case rel => exact ⟨_, QT.out _ _ H4.out F4.out (Nat.le_of_lt L3.out), X2.out⟩
            case measure => rw [H4.out.left, M.out]; exact L3.out
          | false =>
            have X2 := Lib.hid (show badB (tlB r') = R by rw [← HXX.out]; exact (badB_go (by unfold badStep; rw [if_neg g1, if_neg (by rw [hv]; decide)])).symm)
            have L3 := Lib.hid hl1
            rw [g5] at d35
            rw [hv] at V2
            clear g1 g5 hv hl1
            go_wp2_with fail
            refine (V2.out).mono ?_
            rintro e w2 ⟨rfl, hb2⟩
            have S3 := Lib.hid (ST.out _ _ _ (HL.out.fr hb2))
            have F2 := Lib.hid (Fr.of (b := b) hb2)
            clear hb2
            go_wp2_with fail
            refine (S3.out).mono ?_
            rintro e w4 ⟨rfl, h4, f4⟩
            have H4 := Lib.hid h4
            have F4 := Lib.hid (F2.out.trans f4)
            clear h4 f4 d35
            go_wp2_with fail
            go_roundw
            case rel => exact ⟨_, QT.out _ _ H4.out F4.out (Nat.le_of_lt L3.out), X2.out⟩
            case measure => rw [H4.out.left, M.out]; exact L3.out
        · have hv : vescB r' = false := by unfold vescB; rw [decide_eq_false g5]; rfl
          have X2 := Lib.hid (show badB (tlB r') = R by rw [← HXX.out]; exact (badB_go (by unfold badStep; rw [if_neg g1, if_neg (by rw [hv]; decide)])).symm)
          have L3 := Lib.hid hl1
          obtain ⟨cq, hcq⟩ : ∃ cq, hdB r' = cq := ⟨_, rfl⟩
          rw [hcq] at d35 g1 g5
          have t1 : (cq == 41) = false := beq_eq_false_iff_ne.2 (fun e => g1 (.inl e))
          have t2 : (cq == -1) = false := beq_eq_false_iff_ne.2 (fun e => g1 (.inr e))
          have t3 : (cq == 92) = false := beq_eq_false_iff_ne.2 g5
          clear g1 g5 hv hl1 hcq
          go_wp2_with fail
          refine (S2.out).mono ?_
          rintro e w4 ⟨rfl, h4, f4⟩
          have H4 := Lib.hid h4
          have F4 := Lib.hid f4
          clear h4 f4 d35
          go_wp2_with fail
          go_roundw
          case rel => exact ⟨_, QT.out _ _ H4.out F4.out (Nat.le_of_lt L3.out), X2.out⟩
          case measure => rw [H4.out.left, M.out]; exact L3.out
end Go.Proofs.YtmgkccnfhkcncaaGreatDoor
