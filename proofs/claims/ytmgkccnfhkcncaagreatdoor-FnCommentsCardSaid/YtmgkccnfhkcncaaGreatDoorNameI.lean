/-
  css_lexer's lexer: consumeName.
-/
import Derived.Test.YtmgkccnfhkcncaaGreatDoorLoop
namespace Go.Proofs.YtmgkccnfhkcncaaGreatDoor
open Go.RowKit
attribute [local go_sem ↓] Go.wp_at_zero Go.wp_at_succ

/-- The bytes of the token ahead of its name. -/
def namePre (s : ByteArray) (st k : Nat) : List UInt8 := (s.data.toList.drop st).take (k - st)
theorem namePre_more {s : ByteArray} {st k k1 : Nat} {r T : List UInt8} (hA : AtB s k r) (hT : AtB s k1 T) (hst : st ≤ k) (hk : k ≤ k1) : (s.extract st k1).data.toList = namePre s st k ++ r.take (r.length - T.length) := by
  have h1 := hA.size
  have h2 := hT.size
  have e : r.length - T.length = k1 - k := by omega
  rw [Lib.extract_data, e, ← hA.drop]
  unfold namePre
  have e2 : k1 - st = (k - st) + (k1 - k) := by omega
  rw [e2, List.take_add, List.drop_drop]
  congr 3
  omega

/-- A builder beside the lexer. -/
def NSt (B b : Nat) (acc : List UInt8) (P : Nat → Option Value) (s : ByteArray) (r : List UInt8) (st : Nat) (uo kd fl : Int) (w0 wx : World) : Prop :=
  Lib.IsBuilderF 128 5 B B (Lib.byteCells acc) wx ∧ B ≤ wx.heap.size ∧ b < B ∧ w0.heap.size ≤ B ∧ LR b P s r st uo kd fl wx ∧ Fr b w0 wx
theorem Fr.far_below {b B : Nat} {w0 w w' : World} (f : Fr b w0 w) (h : Below B w w') (hB : w0.heap.size ≤ B) : Fr b w0 w' :=
  ⟨h.os.trans f.os, h.tape.trans f.tape, h.output.trans f.output, Nat.le_trans f.size h.size, fun k hk hb => (h.block k (by omega)).trans (f.block k hk hb)⟩
theorem NSt.write {B b : Nat} {acc : List UInt8} {P : Nat → Option Value} {s : ByteArray} {r : List UInt8} {st : Nat} {uo kd fl : Int} {w0 wx : World} (h : NSt B b acc P s r st uo kd fl w0 wx) (c : Int) (hr0 : -2147483648 ≤ c) (hr1 : c ≤ 2147483647) (hl : acc.length ≤ 140737488355000) :
    Calls Tryz.prog 82 #[.pointer (some ⟨B, 0, none⟩), .int .i32 c] wx fun e w' => (∃ k : Int, e = .returned (.tuple #[.int .i64 k, .nilIface])) ∧ NSt B b (acc ++ Lib.encodeRune c) P s r st uo kd fl w0 w' := by
  obtain ⟨h1, h2, h3, h4, h5, h6⟩ := h
  refine (writeRune B B _ c hr0 hr1 wx h1 (by rw [Lib.byteCells_length]; omega) h2).mono ?_
  rintro e w' ⟨rfl, hb, hw, _⟩
  refine ⟨⟨_, rfl⟩, ?_, Nat.le_trans h2 hw.size, h3, h4, h5.below hw h3, h6.far_below hw h4⟩
  rw [Lib.byteCells_append, Lib.byteCells_encodeRune]; exact .inr hb
theorem NSt.string {B b : Nat} {acc : List UInt8} {P : Nat → Option Value} {s : ByteArray} {r : List UInt8} {st : Nat} {uo kd fl : Int} {w0 wx : World} (h : NSt B b acc P s r st uo kd fl w0 wx) :
    Calls Tryz.prog 84 #[.pointer (some ⟨B, 0, none⟩)] wx fun e w' => e = .returned (.string ⟨acc.toArray⟩) ∧ LR b P s r st uo kd fl w' ∧ Fr b w0 w' := by
  obtain ⟨h1, h2, h3, h4, h5, h6⟩ := h
  refine (Tryz.Builder_String_any_k B B acc wx h1 h2).mono ?_
  rintro e w' ⟨rfl, _, hw, _⟩
  exact ⟨rfl, h5.below hw h3, h6.far_below hw h4⟩
/-- The lexer goes on beside the builder. -/
theorem NSt.go {B b : Nat} {acc : List UInt8} {P : Nat → Option Value} {s : ByteArray} {r r' : List UInt8} {st st' : Nat} {uo kd fl : Int} {w0 wx w' : World} (h : NSt B b acc P s r st uo kd fl w0 wx) (hL : LR b P s r' st' uo kd fl w') (f : Fr b wx w') : NSt B b acc P s r' st' uo kd fl w0 w' := by
  obtain ⟨h1, h2, h3, h4, h5, h6⟩ := h
  exact ⟨builder_fr h1 f h3, Nat.le_trans h2 f.size, h3, h4, hL, h6.trans f⟩
/-- The lexer is put further on, and steps. -/
theorem jumpI {b : Nat} {P : Nat → Option Value} {s : ByteArray} {r T : List UInt8} {k j st : Nat} {uo kd fl : Int} {w : World} (h : LR b P s r st uo kd fl w) (hA : AtB s k r) (hT : AtB s j T) (hj : k + widB r ≤ j) :
    Calls Tryz.prog 79 #[.pointer (some ⟨b, 0, none⟩)] (w.setCell ⟨b, 33, none⟩ (.int .i64 (j : Int))) fun e w' => e = .returned (.tuple #[]) ∧ LR b P s T st uo kd fl w' ∧ Fr b w w' := by
  obtain ⟨hTB, hP, hs, k', n, hA', hst, hn, hL⟩ := h
  obtain rfl := hA.unique hA'
  have f := Fr.setCell (b := b) w 33 (.int .i64 (j : Int))
  refine (stepR b P s T j n st _ _ uo kd fl _ (hTB.fr f) hP hs hT (by omega) (by omega) (hL.set33 j)).mono ?_
  rintro e w' ⟨he, h1, f1⟩
  exact ⟨he, h1, f.trans f1⟩
theorem contB_def (y : UInt8) : contB y = ncB (y.toNat : Int) := rfl
/-- What consumeName's caller sees. -/
def NameP (b : Nat) (P : Nat → Option Value) (s : ByteArray) (k : Nat) (r : List UInt8) (st : Nat) (uo kd fl : Int) (w : World) (e : Ending) (w' : World) : Prop :=
  ∃ nm : ByteArray, e = .returned (.string nm) ∧ nm.data.toList = namePre s st k ++ nameW r ∧ LR b P s (nameR r) st uo kd fl w' ∧ Fr b w w'

theorem escV_range (r : List UInt8) : (escV r).1 ≤ 1114111 := by
  unfold escV
  split
  · show 65533 ≤ 1114111; decide
  · split
    · rename_i h _
      have := fix_cp (hexRunB 5 h (tlB (tlB r))).1
      unfold Cp at this
      dsimp only
      omega
    · exact Lib.decodeL_rune _
/-- The loop of consumeName. -/
def NRelI (B b : Nat) (P : Nat → Option Value) (s : ByteArray) (st : Nat) (uo kd fl : Int) (w : World) (total rest : List UInt8) (bound : Nat) (wr : World) : Prop :=
  ∃ (acc r' : List UInt8), NSt B b acc P s r' st uo kd fl w wr ∧ acc ++ (nloopB r').1 = total ∧ (nloopB r').2 = rest ∧ acc.length + 4 * r'.length ≤ bound
theorem nm_end {b : Nat} {P : Nat → Option Value} {s : ByteArray} {k : Nat} {r : List UInt8} {st : Nat} {uo kd fl : Int} {w w' : World} {nm : ByteArray} (h1 : nm.data.toList = namePre s st k ++ nameW r) (h2 : LR b P s (nameR r) st uo kd fl w') (h3 : Fr b w w') :
    NameP b P s k r st uo kd fl w (.returned (.string nm)) w' := ⟨nm, rfl, h1, h2, h3⟩

set_option maxHeartbeats 8000000 in
set_option maxRecDepth 1000000 in
theorem nameI (b : Nat) (P : Nat → Option Value) (s : ByteArray) (k : Nat) (r : List UInt8) (st : Nat) (uo kd fl : Int) (w : World) (h : LR b P s r st uo kd fl w) (hA : AtB s k r) :
    Calls Tryz.prog 99 #[.pointer (some ⟨b, 0, none⟩)] w fun e w' => NameP b P s k r st uo kd fl w e w' := by
  have ST := Lib.hid (fun r w (h : LR b P s r st uo kd fl w) => stepL b P s r st uo kd fl w h)
  have EV := Lib.hid (fun r w (h : LR b P s r st uo kd fl w) => escI b P s r st uo kd fl w h)
  have VE := Lib.hid (fun r w (h : LR b P s r st uo kd fl w) => vescI b P s r st uo kd fl w h)
  obtain ⟨k', hA', hst, hkw, hs, c10, c33, c35, -, -⟩ := h.reads
  obtain rfl := hA.unique hA'
  obtain ⟨K, hK⟩ : ∃ K, k + widB r = K := ⟨_, rfl⟩
  have hA2 := hA.tail
  rw [hK] at hA2 hkw c33
  obtain ⟨T, hTT⟩ : ∃ T, fastB r = T := ⟨_, rfl⟩
  obtain ⟨cp, hcp⟩ : ∃ cp, hdB r = cp := ⟨_, rfl⟩
  have NC := Lib.hid (fun w => lexContinue (hdB r) w)
  rw [hcp] at NC c35
  obtain ⟨x, hx⟩ : ∃ x, ncB cp = x := ⟨_, rfl⟩
  rw [hx] at NC
  have HFB := Lib.hid hTT
  have HT2 := Lib.hid (show (if x = true then (tlB r).dropWhile contB else r) = T by rw [← hx, ← hcp, ← hTT]; rfl)
  have H := Lib.hid h
  have AA := Lib.hid hA
  have A2 := Lib.hid hA2
  have hK1 : k ≤ K := by omega
  have HST := Lib.hid hst
  have hlt := h.lt
  have z33 := h.fz 33
  have HK := Lib.hid hK
  clear h hA hA' hA2 hK hTT hcp hx
  go_enter Tryz.func99, Tryz.ntmps99
  go_upto_if 17 with (go_at_call 96; refine (NC.out _).mono ?_; rintro e w' ⟨rfl, rfl⟩)
  go_cut [2] (fun v wx => v = .string ⟨#[]⟩ ∧ LR b P s T st uo kd fl wx ∧ Fr b w wx)
  case first =>
    cases x
    · have HT3 := Lib.hid (show r = T from HT2.out)
      go_wp2_with fail
      go_meet
      exact ⟨rfl, by rw [← HT3.out]; exact H.out, Fr.refl _ _⟩
    · have HT3 := Lib.hid (show (tlB r).dropWhile contB = T from HT2.out)
      clear HT2
      go_wp2_with fail
      go_loop [5] (fun i => ∃ (j : Nat) (t : List UInt8), i = .int .i64 (j : Int) ∧ AtB s j t ∧ t.dropWhile contB = T ∧ K ≤ j) (fun i => s.size - (intOf i).toNat)
      case atStart => exact ⟨K, tlB r, rfl, A2.out, HT3.out, Nat.le_refl _⟩
      case round =>
        obtain ⟨j, t, rfl, hA, hdw, hKj⟩ := hrel
        have hjs := hA.le
        by_cases hj : j < s.size
        · have hji : (j : Int) < (s.size : Int) := by omega
          obtain ⟨t', rfl, hA'⟩ := hA.cons hj
          obtain ⟨y, hy⟩ : ∃ y, s[j] = y := ⟨_, rfl⟩
          rw [hy] at hdw
          have hyl : y.toNat ≤ 255 := by have := UInt8.toNat_lt y; omega
          have N := Lib.hid (fun w => lexContinue (y.toNat : Int) w)
          have HA := Lib.hid hA
          have HA' := Lib.hid hA'
          have HY := Lib.hid hy
          rw [List.dropWhile_cons] at hdw
          by_cases hc : contB y = true
          · rw [if_pos hc] at hdw
            rw [← contB_def, hc] at N
            have HD := Lib.hid hdw
            clear hA hA' hdw hc
            go_wp2_with (go_at_call 96; refine (N.out _).mono ?_; rintro e w' ⟨rfl, rfl⟩)
            go_round
            case rel => exact ⟨j + 1, t', by go_num, HA'.out, HD.out, by omega⟩
            case measure => simp [intOf]; omega
          · rw [if_neg hc] at hdw
            rw [← contB_def, Bool.eq_false_iff.2 hc] at N
            have J := Lib.hid (jumpI (j := j) H.out AA.out (T := T) (by rw [← hdw, ← hy]; exact hA) (by have := HK.out; omega))
            clear hA hA' hdw hc
            go_wp2_with (go_at_call 96; refine (N.out _).mono ?_; rintro e w' ⟨rfl, rfl⟩)
            refine (J.out).mono ?_
            rintro e w1 ⟨rfl, h1, f1⟩
            go_wp2_with fail
            go_meet
            exact ⟨rfl, h1, f1⟩
        · have hji : ¬ (j : Int) < (s.size : Int) := by omega
          obtain rfl := hA.end_nil hj
          have J := Lib.hid (jumpI (j := j) H.out AA.out (T := T) (by rw [← show ([] : List UInt8) = T from hdw]; exact hA) (by have := HK.out; omega))
          clear hA hdw
          go_wp2_with fail
          refine (J.out).mono ?_
          rintro e w1 ⟨rfl, h1, f1⟩
          go_wp2_with fail
          go_meet
          exact ⟨rfl, h1, f1⟩
  case rest =>
    obtain ⟨rfl, hL, hF⟩ := hcut
    obtain ⟨k1, hA1, hst1, -, -, -, -, -, d36, d37⟩ := hL.reads
    have hle1 := hL.lt
    have hk1s := hA1.le
    have E := Lib.hid (fun w => rangeEndI st k1 w hst1 (by omega))
    have HL := Lib.hid hL
    have HF := Lib.hid hF
    have A1 := Lib.hid hA1
    have i0 : (0 : Int) ≤ (st : Int) := by omega
    have i1 : (st : Int) ≤ (k1 : Int) := by omega
    have i2 : (k1 : Int) ≤ (s.size : Int) := by omega
    clear hL hF hA1 c10 c33 c35 z33 hlt NC
    go_wp2_with fail
    go_region_held3 (fun w' => w'.cell? ⟨b, 36, none⟩ = some (.int .i32 (st : Int)) ∧ w'.cell? ⟨b, 37, none⟩ = some (.int .i32 ((k1 : Int) - st))) (go_keep)
      ((go_at_call 35; refine (E.out _).mono ?_; rintro e w1 ⟨rfl, hb1⟩; have j36 := (hb1.cell (p := ⟨b, 36, none⟩) hle1).trans d36; have j37 := (hb1.cell (p := ⟨b, 37, none⟩) hle1).trans d37))
    have LR1 := Lib.hid (HL.out.fr (below_undrew hb1))
    have FR1 := Lib.hid (HF.out.trans (Fr.of (below_undrew hb1)))
    clear hb1 d36 d37 j36 j37
    obtain ⟨raw, hraw⟩ : ∃ raw, s.extract st k1 = raw := ⟨_, rfl⟩
    have HRAW := Lib.hid (show raw.data.toList = namePre s st k ++ r.take (r.length - T.length) by rw [← hraw]; exact namePre_more AA.out A1.out HST.out (by have h1 := AA.out.size; have h2 := A1.out.size; have h3 : T.length ≤ r.length := (by rw [← HFB.out]; exact fastB_le r); omega))
    have hrs : raw.size ≤ 1073741824 := by rw [← hraw]; simp only [ByteArray.size_extract]; omega
    have V := Lib.hid (VE.out _ _ LR1.out)
    obtain ⟨v, hv⟩ : ∃ v, vescB T = v := ⟨_, rfl⟩
    rw [hv] at V
    have HV := Lib.hid hv
    go_wp2_with fail
    rw [hraw]
    clear hraw hv
    refine (V.out).mono ?_
    rintro e w2 ⟨rfl, hb2⟩
    have L2 := Lib.hid (LR1.out.fr hb2)
    have F2 := Lib.hid (FR1.out.trans (Fr.of hb2))
    clear hb2 V
    cases v
    · have hW : nameW r = r.take (r.length - T.length) := by unfold nameW; rw [HFB.out, HV.out, if_neg (by decide), List.append_nil]
      have hR : nameR r = T := by unfold nameR; rw [HFB.out, HV.out, if_neg (by decide)]
      have HW := Lib.hid hW
      have HR := Lib.hid hR
      clear hW hR
      go_wp2_with fail
      go_ret
      exact nm_end (by rw [HW.out]; exact HRAW.out) (by rw [HR.out]; exact L2.out) F2.out
    · have hW : nameW r = r.take (r.length - T.length) ++ (Lib.encodeRune ((escV T).1 : Int) ++ (nloopB (escV T).2).1) := by unfold nameW; rw [HFB.out, HV.out, if_pos rfl]
      have hR : nameR r = (nloopB (escV T).2).2 := by unfold nameR; rw [HFB.out, HV.out, if_pos rfl]
      have HW := Lib.hid hW
      have HR := Lib.hid hR
      clear hW hR
      have D0 := Lib.hid (dStart w2 L2.out.tabs.tabs raw (by omega))
      go_wp2_with fail
      refine (D0.out).mono ?_
      rintro e w3 ⟨⟨k3, rfl⟩, hD⟩
      obtain ⟨B, hB⟩ : ∃ B, w2.heap.size = B := ⟨_, rfl⟩
      have N3 := Lib.hid (show NSt B b raw.data.toList P s T st uo kd fl w w3 by
        obtain ⟨h1, h2, h3, _⟩ := hD
        rw [hB] at h1 h2 h3
        exact ⟨h1, h3, by rw [← hB]; exact L2.out.lt, by rw [← hB]; exact F2.out.size, L2.out.below h2 (by rw [← hB]; exact L2.out.lt), F2.out.far_below h2 (by rw [← hB]; exact F2.out.size)⟩)
      clear hD D0
      go_wp2_with fail
      clear hB
      have hev := escV_range T
      obtain ⟨c, hc⟩ : ∃ c, (escV T).1 = c := ⟨_, rfl⟩
      obtain ⟨T2, hT2⟩ : ∃ T2, (escV T).2 = T2 := ⟨_, rfl⟩
      have E1 := Lib.hid (EV.out _ _ N3.out.2.2.2.2.1)
      rw [hc, hT2] at E1
      have HC := Lib.hid hc
      have HT3 := Lib.hid hT2
      rw [hc] at hev
      clear hc hT2
      refine (E1.out).mono ?_
      rintro e w4 ⟨rfl, h4, f4⟩
      have N4 := Lib.hid (N3.out.go h4 f4)
      clear h4 f4
      go_wp2_with fail
      refine (N4.out.write (c : Int) (by omega) (by omega) (by show raw.size ≤ _; omega)).mono ?_
      rintro e w5 ⟨⟨k5, rfl⟩, n5⟩
      have N5 := Lib.hid n5
      have HLEN := Lib.hid (show (raw.data.toList ++ Lib.encodeRune (c : Int)).length + 4 * T2.length ≤ 1073741824 + 4 + 4 * 1073741824 by
        have h1 := enc_le (c : Int)
        have h2 : raw.data.toList.length = raw.size := rfl
        have h3 : T2.length ≤ 1073741824 := by
          obtain ⟨kk, hAk, _⟩ := N5.out.2.2.2.2.1.reads
          have := hAk.size; omega
        rw [List.length_append]; omega)
      clear n5
      go_wp2_with fail
      go_loopw [] (fun wr => NRelI B b P s st uo kd fl w ((raw.data.toList ++ Lib.encodeRune (c : Int)) ++ (nloopB T2).1) (nloopB T2).2 5368709124 wr) (fun wr => leftI b s wr)
      case atStart => exact ⟨_, T2, N5.out, rfl, rfl, HLEN.out⟩
      case round =>
        obtain ⟨acc, r', hN, htot, hrest, hlen⟩ := hrel
        obtain ⟨k6, -, -, -, -, -, -, d35, -, -⟩ := hN.2.2.2.2.1.reads
        have hcr := hdB_range r'
        have M := Lib.hid hN.2.2.2.2.1.left
        have HN := Lib.hid hN
        have HTOT := Lib.hid htot
        have HREST := Lib.hid hrest
        have N := Lib.hid (fun w => lexContinue (hdB r') w)
        obtain ⟨cq, hcq⟩ : ∃ cq, hdB r' = cq := ⟨_, rfl⟩
        rw [hcq] at N d35 hcr
        have HCQ := Lib.hid hcq
        obtain ⟨y, hy⟩ : ∃ y, ncB cq = y := ⟨_, rfl⟩
        rw [hy] at N
        have HY := Lib.hid hy
        have V := Lib.hid (VE.out _ _ hN.2.2.2.2.1)
        obtain ⟨z, hz⟩ : ∃ z, vescB r' = z := ⟨_, rfl⟩
        rw [hz] at V
        have HZ := Lib.hid hz
        have hal : acc.length ≤ 5368709124 := by omega
        have HLN := Lib.hid hlen
        clear hN htot hrest hcq hy hz hlen
        cases y
        · cases z
          · have hst := nloopB_stop (r := r') (by rw [HCQ.out, HY.out]; decide) (by rw [HZ.out]; decide)
            have HST2 := Lib.hid hst
            clear hst
            go_wp2_with (go_at_call 96; refine (N.out _).mono ?_; rintro e w' ⟨rfl, rfl⟩)
            refine (V.out).mono ?_
            rintro e w6 ⟨rfl, hb6⟩
            have N6 := Lib.hid (HN.out.go (HN.out.2.2.2.2.1.fr hb6) (Fr.of hb6))
            clear hb6
            go_wp2_with fail
            refine (N6.out.string).mono ?_
            rintro e w7 ⟨rfl, h7, f7⟩
            have H7 := Lib.hid h7
            have F7 := Lib.hid f7
            clear h7 f7
            go_wp2_with fail
            go_ret
            have e1 := HTOT.out
            have e2 := HREST.out
            rw [HST2.out] at e1 e2
            exact nm_end (by
                have e3 : acc = (raw.data.toList ++ Lib.encodeRune (c : Int)) ++ (nloopB T2).1 := by rw [← e1]; simp
                show acc.toArray.toList = _
                rw [HW.out, HC.out, HT3.out, List.toList_toArray, e3, HRAW.out]
                simp only [List.append_assoc]) (by rw [HR.out, HT3.out, ← e2]; exact H7.out) F7.out
          · have hgo := nloopB_esc (r := r') (by rw [HCQ.out, HY.out]; decide) HZ.out
            have HGO := Lib.hid hgo
            have hev2 := escV_range r'
            have hlt2 := escV_le r'
            have hlt3 := tlB_len (esc_ne HZ.out)
            obtain ⟨c2, hc2⟩ : ∃ c, (escV r').1 = c := ⟨_, rfl⟩
            obtain ⟨r2, hr2⟩ : ∃ r2, (escV r').2 = r2 := ⟨_, rfl⟩
            rw [hc2] at hev2
            rw [hr2] at hlt2
            have HC2 := Lib.hid hc2
            have HR2 := Lib.hid hr2
            have EE := Lib.hid (fun w h => EV.out r' w h)
            rw [hc2, hr2] at EE
            have L3 := Lib.hid (show r2.length < r'.length by omega)
            clear hgo hc2 hr2 hlt2 hlt3
            go_wp2_with (go_at_call 96; refine (N.out _).mono ?_; rintro e w' ⟨rfl, rfl⟩)
            refine (V.out).mono ?_
            rintro e w6 ⟨rfl, hb6⟩
            have N6 := Lib.hid (HN.out.go (HN.out.2.2.2.2.1.fr hb6) (Fr.of hb6))
            clear hb6
            go_wp2_with fail
            refine (EE.out _ N6.out.2.2.2.2.1).mono ?_
            rintro e w7 ⟨rfl, h7, f7⟩
            have N7 := Lib.hid (N6.out.go h7 f7)
            clear h7 f7
            go_wp2_with fail
            refine (N7.out.write (c2 : Int) (by omega) (by omega) (by omega)).mono ?_
            rintro e w8 ⟨⟨k8, rfl⟩, n8⟩
            have N8 := Lib.hid n8
            clear n8 d35
            go_wp2_with fail
            go_roundw
            case rel => exact ⟨_, r2, N8.out, by rw [← HTOT.out, HGO.out, HC2.out, HR2.out]; simp only [List.append_assoc], by rw [← HREST.out, HGO.out, HR2.out], by
              have h1 := enc_le (c2 : Int); have h2 := L3.out; have h3 := HLN.out; rw [List.length_append]; omega⟩
            case measure => rw [N8.out.2.2.2.2.1.left, M.out]; exact L3.out
        · have hgo := nloopB_conts (r := r') (by rw [HCQ.out, HY.out])
          rw [HCQ.out] at hgo
          have HGO := Lib.hid hgo
          have hlt3 := tlB_len (nc_ne (r := r') (by rw [HCQ.out, HY.out]))
          have L3 := Lib.hid hlt3
          clear hgo hlt3
          go_wp2_with (go_at_call 96; refine (N.out _).mono ?_; rintro e w' ⟨rfl, rfl⟩)
          refine (HN.out.write cq (by omega) (by omega) (by omega)).mono ?_
          rintro e w6 ⟨⟨k6, rfl⟩, n6⟩
          have N6 := Lib.hid n6
          clear n6 d35
          go_wp2_with fail
          refine (ST.out _ _ N6.out.2.2.2.2.1).mono ?_
          rintro e w7 ⟨rfl, h7, f7⟩
          have N7 := Lib.hid (N6.out.go h7 f7)
          clear h7 f7
          go_wp2_with fail
          go_roundw
          case rel => exact ⟨_, tlB r', N7.out, by rw [← HTOT.out, HGO.out]; simp only [List.append_assoc], by rw [← HREST.out, HGO.out], by
            have h1 := enc_le cq; have h2 := L3.out; have h3 := HLN.out; rw [List.length_append]; omega⟩
          case measure => rw [N7.out.2.2.2.2.1.left, M.out]; exact L3.out
end Go.Proofs.YtmgkccnfhkcncaaGreatDoor
