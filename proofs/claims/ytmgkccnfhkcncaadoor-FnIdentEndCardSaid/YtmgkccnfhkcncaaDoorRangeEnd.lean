/-
  impl.IdentEnd: RangeOfIdentifier.
-/
import Derived.Test.YtmgkccnfhkcncaaDoorSpecIdentEnd
import Derived.Test.YtmgkccnfhkcncaaDoorLexChars
import Derived.Test.YtmgkccnfhkcncaaDoorWould
import Derived.Deep.DeepCutAuto
import Derived.Deep.CutBlock
import Derived.Handy
namespace Go.Proofs.YtmgkccnfhkcncaaDoor
open Go.RowKit

/-- A source that has but its text. -/
def srcV (s : ByteArray) : Value := .agg #[.string ⟨#[]⟩, .string ⟨#[]⟩, .string ⟨#[]⟩, .string s, .string ⟨#[]⟩, .string ⟨#[]⟩, .string ⟨#[]⟩, .string ⟨#[]⟩, .int .u8 0, .int .u32 0]
theorem lt_of_heap {w : World} {g : Nat} {o : Obj} (h : w.heap[g]? = some o) : g < w.heap.size := by
  rcases Nat.lt_or_ge g w.heap.size with h' | h'
  · exact h'
  · simp [Array.getElem?_eq_none h'] at h
theorem conts_ws {d : Nat} (h : conts d = true) : isWs d = false := by
  cases hw : isWs d with
  | false => rfl
  | true => unfold isWs at hw; simp at hw; unfold conts at h; simp at h; omega
theorem last_byte (a : List Nat) (h : ∀ d ∈ a, conts d = true) (hne : a ≠ []) (j : Nat) (hj : (encs a).length = j + 1) (x : UInt8) (hx : (encs a)[j]? = some x) : spB (x.toNat : Int) = false := by
  obtain ⟨b, d, rfl⟩ : ∃ b d, a = b ++ [d] := ⟨a.dropLast, a.getLast hne, (List.dropLast_concat_getLast hne).symm⟩
  have hd := h d (by simp)
  rw [encs_append, encs_one] at hx hj
  rw [List.length_append] at hj
  have hl := enc_len d
  rw [List.getElem?_append_right (by omega)] at hx
  have hm : x ∈ enc d := List.mem_of_getElem? hx
  by_cases h128 : d < 128
  · rw [enc_ascii d h128] at hm
    have : x = d.toUInt8 := by simpa using hm
    rw [this]
    have e : d.toUInt8.toNat = d := by simp; omega
    rw [e, sp_nat]
    exact conts_ws hd
  · have := enc_high d (by omega) x hm
    unfold spB
    exact decide_eq_false (by omega)
/-- The loop of RangeOfIdentifier. -/
def RRel (tx : ByteArray) (k : Nat) (a rest : List Nat) (w0 : World) (iv : Value) (w : World) : Prop :=
  ∃ i a', iv = .int .i64 ((i : Nat) : Int) ∧ i + (encs a').length = (encs a).length ∧ tx.data.toList.drop i = encs (a' ++ rest) ∧ (∀ c ∈ a', conts c = true ∧ Cp c) ∧ Below w0.heap.size w0 w ∧
    w.heap[w0.heap.size + 1]? = some (.cells #[.int .i32 (k : Int)] 58 (0, 0)) ∧ w.heap[w0.heap.size + 1 + 1]? = some (.cells #[.int .i32 0, .int .i32 0] 60 (0, 0))

set_option maxHeartbeats 2000000 in
set_option maxRecDepth 100000 in
theorem rangeId (s : ByteArray) (k : Nat) (w : World) (hT : Lib.Utf8Tabs 0 1 w) (a : List Nat) (c : Nat) (u : List Nat) (hA : At s k (a ++ c :: u)) (hz : s.size ≤ 2147483000) (ha : ∀ d ∈ a, conts d = true) (hane : a ≠ []) (hc : conts c = false) (he : ¬ (c = 92 ∧ escOk u = true)) :
    Calls Tryd.prog 44 #[srcV s, .agg #[.int .i32 (k : Int)]] w fun e w' => e = .returned (.agg #[.int .i32 (k : Int), .int .i32 ((encs a).length : Nat)]) ∧ Below w.heap.size w w' := by
  have hk := hA.le
  obtain ⟨tx, htx⟩ : ∃ tx, s.extract k s.size = tx := ⟨_, rfl⟩
  have htl : tx.data.toList = encs (a ++ c :: u) := by rw [← htx, Lib.extract_to_end]; exact hA.drop
  have hts : tx.size = (encs (a ++ c :: u)).length := by rw [← htl]; rfl
  have hcl := enc_len c
  have hts2 : tx.size = (encs a).length + (enc c).length + (encs u).length := by
    rw [hts, encs_append, encs_cons, List.length_append, List.length_append]; omega
  have hts3 : tx.size ≤ 2147483000 := by have := hA.size; omega
  have hts0 : ¬ tx.size = 0 := by omega
  have TL := Lib.hid htl
  have TS := Lib.hid hts2
  have CPS := Lib.hid hA.cp
  have AL := Lib.hid ha
  have ANE := Lib.hid hane
  have HE := Lib.hid he
  have T := Lib.hid hT
  clear htl hts hts2 hA ha hane he hT hcl
  have tz : ((tx.size : Int) == 0) = false := beq_eq_false_iff_ne.2 (by omega)
  unfold srcV
  go_enter Tryd.func44, Tryd.ntmps44
  go_wp2_with fail
  go_loopw [6] (fun iv wr => RRel tx k a (c :: u) w iv wr) (fun iv _ => tx.size - (intOf iv).toNat)
  case atStart =>
    refine ⟨0, a, rfl, by omega, TL.out, fun d hd => ⟨AL.out d hd, CPS.out d (by simp [hd])⟩, ?_, ?_, ?_⟩
    · exact (((Below.refl _ _).alloc (Nat.le_refl _) _).alloc (by simp) _).alloc (by simp; omega) _
    · rw [heap_alloc_old _ _ (by simp)]
      have := heap_alloc_new (w.alloc (.cells #[.string ⟨#[]⟩, .string ⟨#[]⟩, .string ⟨#[]⟩, .string s, .string ⟨#[]⟩, .string ⟨#[]⟩, .string ⟨#[]⟩, .string ⟨#[]⟩, .int .u8 0, .int .u32 0] 71)) (.cells #[.int .i32 (k : Int)] 58)
      simpa using this
    · exact (show w.heap.size + 1 + 1 = ((w.alloc (.cells #[.string ⟨#[]⟩, .string ⟨#[]⟩, .string ⟨#[]⟩, .string s, .string ⟨#[]⟩, .string ⟨#[]⟩, .string ⟨#[]⟩, .string ⟨#[]⟩, .int .u8 0, .int .u32 0] 71)).alloc (.cells #[.int .i32 (k : Int)] 58)).heap.size by simp) ▸ heap_alloc_new _ _
  case round =>
    obtain ⟨i, a', rfl, hi, hd, hcp, hB, hb1, hb2⟩ := hrel
    have l1 := lt_of_heap hb1
    have l2 := lt_of_heap hb2
    have hi2 : i ≤ tx.size := by have := TS.out; omega
    have TT := Lib.hid (Utf8Tabs_below T.out hB)
    have HD := Lib.hid (show (tx.extract i tx.size).data.toList = encs (a' ++ c :: u) by rw [Lib.extract_to_end]; exact hd)
    have HB := Lib.hid hB
    have B1 := Lib.hid hb1
    have B2 := Lib.hid hb2
    have HI := Lib.hid hi
    have HCP := Lib.hid hcp
    have HDD := Lib.hid hd
    clear hi hd hcp hB hb1 hb2
    cases a' with
    | cons d t =>
      have hd := HCP.out d (by simp)
      have D := Lib.hid (decodeRune_cp (tx.extract i tx.size) wr TT.out d (t ++ c :: u) hd.2 HD.out)
      have hdl := enc_len d
      have hd1 : 1 ≤ d := hd.2.1
      have N := Lib.hid (fun w => lexContinue (d : Int) w)
      rw [nc_nat d hd1, hd.1] at N
      have hle : i + (enc d).length ≤ tx.size := by
        have h1 := HI.out; have h2 := TS.out
        rw [encs_cons, List.length_append] at h1; omega
      have NX := Lib.hid (show tx.data.toList.drop (i + (enc d).length) = encs (t ++ c :: u) by rw [← List.drop_drop, HDD.out]; exact drop_encs d _)
      have HI2 := Lib.hid (show i + (enc d).length + (encs t).length = (encs a).length by have h1 := HI.out; rw [encs_cons, List.length_append] at h1; omega)
      obtain ⟨n, hn⟩ : ∃ n, (enc d).length = n := ⟨_, rfl⟩
      rw [hn] at D hle NX HI2 hdl
      clear hn hd
      go_wp2_with fail
      refine (D.out).mono ?_
      rintro e w1 ⟨rfl, hb⟩
      have HB' := Lib.hid (HB.out.trans (hb.mono HB.out.size))
      have B1' := Lib.hid ((hb.block _ l1).trans B1.out)
      have B2' := Lib.hid ((hb.block _ l2).trans B2.out)
      clear hb
      go_wp2_with (go_at_call 54; refine (N.out _).mono ?_; rintro e w' ⟨rfl, rfl⟩)
      go_roundw
      case rel => exact ⟨i + n, t, by go_num, HI2.out, NX.out, fun x hx => HCP.out x (by simp [hx]), HB'.out, B1'.out, B2'.out⟩
      case measure => simp [intOf]; omega
    | nil =>
      have hcc := CPS.out c (by simp)
      have D := Lib.hid (decodeRune_cp (tx.extract i tx.size) wr TT.out c u hcc HD.out)
      have hcl := enc_len c
      have hc1 : 1 ≤ c := hcc.1
      have N := Lib.hid (fun w => lexContinue (c : Int) w)
      rw [nc_nat c hc1, hc] at N
      obtain ⟨j, hj⟩ : ∃ j, i = j + 1 := ⟨i - 1, by
        have h1 := HI.out
        have : (encs a).length ≠ 0 := fun h0 => ANE.out ((encs_eq_nil a).1 (List.eq_nil_of_length_eq_zero h0))
        rw [encs_nil, List.length_nil] at h1; omega⟩
      subst hj
      have hjl : j < tx.size := by omega
      obtain ⟨x, hx⟩ : ∃ x, tx[j] = x := ⟨_, rfl⟩
      have hxl : x.toNat ≤ 255 := by have := UInt8.toNat_lt x; omega
      have hws : spB (x.toNat : Int) = false := by
        refine last_byte a AL.out ANE.out j (by have h1 := HI.out; rw [encs_nil, List.length_nil] at h1; omega) x ?_
        have h1 : tx.data.toList[j]? = some x := by rw [← hx]; exact List.getElem?_eq_getElem (by show j < tx.data.toList.length; exact hjl)
        rw [TL.out, encs_append, List.getElem?_append_left (by have h1 := HI.out; rw [encs_nil, List.length_nil] at h1; omega)] at h1
        exact h1
      have S := Lib.hid (fun w => lexSpace (x.toNat : Int) w)
      rw [hws] at S
      have HN : (encs a).length = j + 1 := by have h1 := HI.out; rw [encs_nil, List.length_nil] at h1; omega
      have HNN := Lib.hid HN
      clear hws HI HN
      by_cases h92 : c = 92
      · subst h92
        obtain ⟨d, v, rfl⟩ : ∃ d v, u = d :: v := by
          cases u with
          | nil => exact absurd ⟨rfl, rfl⟩ HE.out
          | cons d v => exact ⟨d, v, rfl⟩
        have hnl : isNl d = true := by
          cases hn : isNl d with
          | true => rfl
          | false => exact absurd ⟨rfl, by show (!isNl d) = true; rw [hn]; rfl⟩ HE.out
        have hd3 : d = 10 ∨ d = 12 ∨ d = 13 := by unfold isNl at hnl; simp at hnl; omega
        have e92 : enc 92 = [92] := by rw [enc_ascii 92 (by omega)]; rfl
        have ed : enc d = [d.toUInt8] := enc_ascii d (by omega)
        have hj2 : j + 2 < tx.size := by
          have h2 := TS.out
          rw [HNN.out, e92, encs_cons, ed] at h2
          simp at h2; omega
        obtain ⟨y, hy⟩ : ∃ y, tx[j + 2] = y := ⟨_, rfl⟩
        have hyl : y.toNat ≤ 255 := by have := UInt8.toNat_lt y; omega
        have hyd : y = d.toUInt8 := by
          have h1 : tx.data.toList[j + 2]? = some y := by rw [← hy]; exact List.getElem?_eq_getElem (by show j + 2 < tx.data.toList.length; exact hj2)
          rw [TL.out, encs_append, List.getElem?_append_right (by rw [HNN.out]; omega), HNN.out, encs_cons, encs_cons, e92, ed, show j + 2 - (j + 1) = 1 by omega] at h1
          simpa using h1.symm
        have hyn : nlB (y.toNat : Int) = true := by
          rw [hyd]
          rcases hd3 with rfl | rfl | rfl <;> decide
        have NL := Lib.hid (fun w => lexNewline (y.toNat : Int) w)
        rw [hyn] at NL
        obtain ⟨n, hn⟩ : ∃ n, (enc 92).length = n := ⟨_, rfl⟩
        rw [hn] at D hcl
        clear hn hcc e92 ed hd3 hnl hyn hyd
        go_wp2_with fail
        refine (D.out).mono ?_
        rintro e w1 ⟨rfl, hb⟩
        have HB' := Lib.hid (HB.out.trans (hb.mono HB.out.size))
        have B1' := Lib.hid ((hb.block _ l1).trans B1.out)
        have B2' := Lib.hid ((hb.block _ l2).trans B2.out)
        have c1 : w1.cell? ⟨w.heap.size + 1, 0, none⟩ = some (.int .i32 (k : Int)) := by rw [Lib.cell_of_heap B1'.out]; rfl
        have d0 : w1.cell? ⟨w.heap.size + 1 + 1, 0, none⟩ = some (.int .i32 0) := by rw [Lib.cell_of_heap B2'.out]; rfl
        have d1 : w1.cell? ⟨w.heap.size + 1 + 1, 1, none⟩ = some (.int .i32 0) := by rw [Lib.cell_of_heap B2'.out]; rfl
        have z0 : w1.frozen? ⟨w.heap.size + 1 + 1, 0, none⟩ = false := Lib.frozen_of_heap B2'.out 0
        have z1 : w1.frozen? ⟨w.heap.size + 1 + 1, 1, none⟩ = false := Lib.frozen_of_heap B2'.out 1
        clear hb
        go_wp2_with fail
        refine (N.out _).mono ?_
        rintro e w' ⟨rfl, rfl⟩
        go_wp2_with fail
        refine (NL.out _).mono ?_
        rintro e w' ⟨rfl, rfl⟩
        go_wp2_with fail
        refine (S.out _).mono ?_
        rintro e w' ⟨rfl, rfl⟩
        go_wp2_with fail
        have e2 : ((w1.setCell ⟨w.heap.size + 1 + 1, 0, none⟩ (.int .i32 (k : Int))).setCell ⟨w.heap.size + 1 + 1, 1, none⟩ (.int .i32 ((j : Int) + 1))).heap[w.heap.size + 1 + 1]? = some (.cells #[.int .i32 (k : Int), .int .i32 ((j : Int) + 1)] 60 (0, 0)) := by
          simp [World.setCell, Array.getElem?_modify, B2'.out]
        have r0 : ((w1.setCell ⟨w.heap.size + 1 + 1, 0, none⟩ (.int .i32 (k : Int))).setCell ⟨w.heap.size + 1 + 1, 1, none⟩ (.int .i32 ((j : Int) + 1))).cell? ⟨w.heap.size + 1 + 1, 0, none⟩ = some (.int .i32 (k : Int)) := by rw [Lib.cell_of_heap e2]; rfl
        have r1 : ((w1.setCell ⟨w.heap.size + 1 + 1, 0, none⟩ (.int .i32 (k : Int))).setCell ⟨w.heap.size + 1 + 1, 1, none⟩ (.int .i32 ((j : Int) + 1))).cell? ⟨w.heap.size + 1 + 1, 1, none⟩ = some (.int .i32 ((j : Int) + 1)) := by rw [Lib.cell_of_heap e2]; rfl
        have bel : Below w.heap.size w ((w1.setCell ⟨w.heap.size + 1 + 1, 0, none⟩ (.int .i32 (k : Int))).setCell ⟨w.heap.size + 1 + 1, 1, none⟩ (.int .i32 ((j : Int) + 1))) :=
          (HB'.out.setCell (p := ⟨w.heap.size + 1 + 1, 0, none⟩) (by show w.heap.size ≤ w.heap.size + 1 + 1; omega) _).setCell (p := ⟨w.heap.size + 1 + 1, 1, none⟩) (by show w.heap.size ≤ w.heap.size + 1 + 1; omega) _
        generalize (w1.setCell ⟨w.heap.size + 1 + 1, 0, none⟩ (.int .i32 (k : Int))).setCell ⟨w.heap.size + 1 + 1, 1, none⟩ (.int .i32 ((j : Int) + 1)) = W2 at r0 r1 bel ⊢
        refine bodyPost_ret (v := .agg #[.int .i32 (k : Int), .int .i32 ((j : Int) + 1)]) (by simp [results, Tryd.results44, go_sem, r0, r1]) rfl ?_
        exact ⟨by rw [HNN.out]; rfl, bel⟩
      · have t92 : ((c : Int) == 92) = false := beq_eq_false_iff_ne.2 (by omega)
        obtain ⟨n, hn⟩ : ∃ n, (enc c).length = n := ⟨_, rfl⟩
        rw [hn] at D hcl
        clear hn hcc h92
        go_wp2_with fail
        refine (D.out).mono ?_
        rintro e w1 ⟨rfl, hb⟩
        have HB' := Lib.hid (HB.out.trans (hb.mono HB.out.size))
        have B1' := Lib.hid ((hb.block _ l1).trans B1.out)
        have B2' := Lib.hid ((hb.block _ l2).trans B2.out)
        have c1 : w1.cell? ⟨w.heap.size + 1, 0, none⟩ = some (.int .i32 (k : Int)) := by rw [Lib.cell_of_heap B1'.out]; rfl
        have d0 : w1.cell? ⟨w.heap.size + 1 + 1, 0, none⟩ = some (.int .i32 0) := by rw [Lib.cell_of_heap B2'.out]; rfl
        have d1 : w1.cell? ⟨w.heap.size + 1 + 1, 1, none⟩ = some (.int .i32 0) := by rw [Lib.cell_of_heap B2'.out]; rfl
        have z0 : w1.frozen? ⟨w.heap.size + 1 + 1, 0, none⟩ = false := Lib.frozen_of_heap B2'.out 0
        have z1 : w1.frozen? ⟨w.heap.size + 1 + 1, 1, none⟩ = false := Lib.frozen_of_heap B2'.out 1
        clear hb
        go_wp2_with fail
        refine (N.out _).mono ?_
        rintro e w' ⟨rfl, rfl⟩
        go_wp2_with fail
        refine (S.out _).mono ?_
        rintro e w' ⟨rfl, rfl⟩
        go_wp2_with fail
        have e2 : ((w1.setCell ⟨w.heap.size + 1 + 1, 0, none⟩ (.int .i32 (k : Int))).setCell ⟨w.heap.size + 1 + 1, 1, none⟩ (.int .i32 ((j : Int) + 1))).heap[w.heap.size + 1 + 1]? = some (.cells #[.int .i32 (k : Int), .int .i32 ((j : Int) + 1)] 60 (0, 0)) := by
          simp [World.setCell, Array.getElem?_modify, B2'.out]
        have r0 : ((w1.setCell ⟨w.heap.size + 1 + 1, 0, none⟩ (.int .i32 (k : Int))).setCell ⟨w.heap.size + 1 + 1, 1, none⟩ (.int .i32 ((j : Int) + 1))).cell? ⟨w.heap.size + 1 + 1, 0, none⟩ = some (.int .i32 (k : Int)) := by rw [Lib.cell_of_heap e2]; rfl
        have r1 : ((w1.setCell ⟨w.heap.size + 1 + 1, 0, none⟩ (.int .i32 (k : Int))).setCell ⟨w.heap.size + 1 + 1, 1, none⟩ (.int .i32 ((j : Int) + 1))).cell? ⟨w.heap.size + 1 + 1, 1, none⟩ = some (.int .i32 ((j : Int) + 1)) := by rw [Lib.cell_of_heap e2]; rfl
        have bel : Below w.heap.size w ((w1.setCell ⟨w.heap.size + 1 + 1, 0, none⟩ (.int .i32 (k : Int))).setCell ⟨w.heap.size + 1 + 1, 1, none⟩ (.int .i32 ((j : Int) + 1))) :=
          (HB'.out.setCell (p := ⟨w.heap.size + 1 + 1, 0, none⟩) (by show w.heap.size ≤ w.heap.size + 1 + 1; omega) _).setCell (p := ⟨w.heap.size + 1 + 1, 1, none⟩) (by show w.heap.size ≤ w.heap.size + 1 + 1; omega) _
        generalize (w1.setCell ⟨w.heap.size + 1 + 1, 0, none⟩ (.int .i32 (k : Int))).setCell ⟨w.heap.size + 1 + 1, 1, none⟩ (.int .i32 ((j : Int) + 1)) = W2 at r0 r1 bel ⊢
        refine bodyPost_ret (v := .agg #[.int .i32 (k : Int), .int .i32 ((j : Int) + 1)]) (by simp [results, Tryd.results44, go_sem, r0, r1]) rfl ?_
        exact ⟨by rw [HNN.out]; rfl, bel⟩
end Go.Proofs.YtmgkccnfhkcncaaDoor
