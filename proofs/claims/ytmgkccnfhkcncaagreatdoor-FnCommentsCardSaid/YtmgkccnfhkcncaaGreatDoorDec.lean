/-
  css_lexer's tokens: DecodedText. css_lexer's tokens: DecodedText of an address.
-/
import Derived.Test.YtmgkccnfhkcncaaGreatDoorLoop
import Derived.Deep.DeepCutAuto
import Derived.Deep.CutBlock
namespace Go.Proofs.YtmgkccnfhkcncaaGreatDoor
open Go.RowKit
attribute [local go_sem ↓] Go.wp_at_zero Go.wp_at_succ

def wsU (x : UInt8) : Bool := spB (x.toNat : Int)
/-- Whitespace off the end. -/
def rtrim (l : List UInt8) : List UInt8 := (l.reverse.dropWhile wsU).reverse
/-- Where an address without its bracket ends. -/
def urlEnd (raw : List UInt8) : Nat := if raw[raw.length - 1]? = some 41 then raw.length - 1 else raw.length
/-- What DecodedText decodes. -/
def inner (kd : Nat) (raw : List UInt8) : List UInt8 :=
  if kd = 1 ∨ kd = 28 then raw.drop 1
  else if kd = 27 then raw.take (raw.length - 1)
  else if kd = 36 then (raw.take (raw.length - 1)).drop 1
  else if kd = 37 then rtrim (((raw.take (urlEnd raw)).drop 4).dropWhile wsU)
  else raw
/-- Is it one of the kinds that are decoded. -/
def isDec (kd : Nat) : Bool := decide (kd = 29 ∨ kd = 26 ∨ kd = 1 ∨ kd = 28 ∨ kd = 27 ∨ kd = 36 ∨ kd = 37)
def decText (kd : Nat) (raw : List UInt8) : List UInt8 := if isDec kd = true then decodeB (inner kd raw) else raw
/-- How long it must be. -/
def DecOk (kd : Nat) (raw : List UInt8) : Prop := (kd = 1 ∨ kd = 28 ∨ kd = 27 → 1 ≤ raw.length) ∧ (kd = 36 → 2 ≤ raw.length) ∧ (kd = 37 → 4 ≤ urlEnd raw ∧ 1 ≤ raw.length)

theorem ext_list (s : ByteArray) (a b : Nat) : (s.extract a b).data.toList = (s.data.toList.take b).drop a := by
  rw [Lib.extract_data, List.drop_take]

set_option maxHeartbeats 8000000 in
set_option maxRecDepth 1000000 in
theorem decT (s : ByteArray) (a e kd : Nat) (uo fl : Int) (w : World) (hT : Lib.Utf8Tabs 0 1 w) (hae : a ≤ e) (hes : e ≤ s.size) (hs : s.size ≤ 1073741824) (hk37 : kd ≠ 37) (hok : DecOk kd ((s.extract a e).data.toList)) :
    Calls Tryz.prog 36 #[.agg #[.int .i32 (a : Int), .int .i32 ((e : Int) - a), .int .u16 uo, .int .u8 (kd : Int), .int .u8 fl], .string s] w fun x w' => x = .returned (.string ⟨(decText kd ((s.extract a e).data.toList)).toArray⟩) ∧ Below w.heap.size w w' := by
  obtain ⟨raw, hraw⟩ : ∃ raw, s.extract a e = raw := ⟨_, rfl⟩
  have hrz : raw.size = e - a := by rw [← hraw]; simp only [ByteArray.size_extract]; omega
  rw [hraw] at hok ⊢
  have E := Lib.hid (fun w => rangeEndI a e w hae (by omega))
  have D := Lib.hid (fun (t : ByteArray) w hT (h : t.size ≤ 1073741824) => decodeIn t w (by omega) hT)
  have T := Lib.hid hT
  have OK := Lib.hid hok
  have HRAW := Lib.hid hraw
  have HRZ := Lib.hid hrz
  have i0 : (0 : Int) ≤ (a : Int) := by omega
  have i1 : (a : Int) ≤ (e : Int) := by omega
  have i2 : (e : Int) ≤ (s.size : Int) := by omega
  have K37 := Lib.hid hk37
  clear hT hok hraw hrz hk37
  go_enter Tryz.func36, Tryz.ntmps36
  go_upto_region 1 with fail
  obtain ⟨B, hB⟩ : ∃ B, w.heap.size = B := ⟨_, rfl⟩
  obtain ⟨w1, hw1⟩ : ∃ x, w.alloc (.cells #[.int .i32 (a : Int), .int .i32 ((e : Int) - a), .int .u16 uo, .int .u8 (kd : Int), .int .u8 fl] 66) = x := ⟨_, rfl⟩
  have BK := Lib.hid (show w1.heap[B]? = some (.cells #[.int .i32 (a : Int), .int .i32 ((e : Int) - a), .int .u16 uo, .int .u8 (kd : Int), .int .u8 fl] 66 (0, 0)) by rw [← hw1, ← hB]; exact heap_alloc_new w _)
  have B1 := Lib.hid (show Below w.heap.size w w1 by rw [← hw1]; exact (Below.refl _ _).alloc (Nat.le_refl _) _)
  have hlt : B < w1.heap.size := (Array.getElem?_eq_some_iff.1 BK.out).1
  have c0 : w1.cell? ⟨B, 0, none⟩ = some (.int .i32 (a : Int)) := by rw [Lib.cell_of_heap BK.out]; rfl
  have c1 : w1.cell? ⟨B, 1, none⟩ = some (.int .i32 ((e : Int) - a)) := by rw [Lib.cell_of_heap BK.out]; rfl
  have c3 : w1.cell? ⟨B, 3, none⟩ = some (.int .u8 (kd : Int)) := by rw [Lib.cell_of_heap BK.out]; rfl
  rw [hw1, hB]
  clear hw1 hB
  go_region_held3 (fun w' => w'.cell? ⟨B, 0, none⟩ = some (.int .i32 (a : Int)) ∧ w'.cell? ⟨B, 1, none⟩ = some (.int .i32 ((e : Int) - a))) (go_keep)
    ((go_at_call 35; refine (E.out _).mono ?_; rintro x w2 ⟨rfl, hb2⟩; have j0 := (hb2.cell (p := ⟨B, 0, none⟩) hlt).trans c0; have j1 := (hb2.cell (p := ⟨B, 1, none⟩) hlt).trans c1))
  have j3 := (hb2.cell (p := ⟨B, 3, none⟩) hlt).trans c3
  have B2 := Lib.hid (B1.out.trans ((below_undrew hb2).mono B1.out.size))
  have T2 := Lib.hid (Utf8Tabs_below T.out B2.out)
  clear hb2 c0 c1 c3 hlt
  have hraw := HRAW.out
  have hrs : raw.size ≤ 1073741824 := by have := HRZ.out; omega
  have hrl : raw.data.toList.length = raw.size := rfl
  have HRL := Lib.hid hrl
  clear hrl
  go_upto_region 2 with fail
  rw [hraw]
  clear hraw
  by_cases k29 : kd = 29
  · subst k29
    obtain ⟨q, hq⟩ : ∃ q, decodeB ((raw).data.toList) = q := ⟨_, rfl⟩
    have D1 := Lib.hid (D.out (raw) w2 T2.out (hrs))
    rw [hq] at D1
    have HQ := Lib.hid hq
    clear hq
    go_wp2_with fail
    refine (D1.out).mono ?_
    rintro x w3 ⟨rfl, hb3⟩
    go_wp2_with fail
    go_ret
    exact ⟨ret_str (by exact HQ.out.symm), B2.out.trans (hb3.mono B2.out.size)⟩
  · by_cases k26 : kd = 26
    · subst k26
      clear k29
      obtain ⟨q, hq⟩ : ∃ q, decodeB ((raw).data.toList) = q := ⟨_, rfl⟩
      have D1 := Lib.hid (D.out (raw) w2 T2.out (hrs))
      rw [hq] at D1
      have HQ := Lib.hid hq
      clear hq
      go_wp2_with fail
      refine (D1.out).mono ?_
      rintro x w3 ⟨rfl, hb3⟩
      go_wp2_with fail
      go_ret
      exact ⟨ret_str (by exact HQ.out.symm), B2.out.trans (hb3.mono B2.out.size)⟩
    · by_cases k1 : kd = 1
      · subst k1
        have h1 : 1 ≤ raw.size := OK.out.1 (.inl rfl)
        have h1i : (1 : Int) ≤ (raw.size : Int) := by omega
        clear k29 k26
        obtain ⟨q, hq⟩ : ∃ q, decodeB ((raw.extract 1 raw.size).data.toList) = q := ⟨_, rfl⟩
        have D1 := Lib.hid (D.out (raw.extract 1 raw.size) w2 T2.out (by simp only [ByteArray.size_extract]; omega))
        rw [hq] at D1
        have HQ := Lib.hid hq
        clear hq
        go_wp2_with fail
        refine (D1.out).mono ?_
        rintro x w3 ⟨rfl, hb3⟩
        go_wp2_with fail
        go_ret
        exact ⟨ret_str (by rw [← HQ.out, Lib.extract_to_end]; rfl), B2.out.trans (hb3.mono B2.out.size)⟩
      · by_cases k28 : kd = 28
        · subst k28
          have h1 : 1 ≤ raw.size := OK.out.1 (.inr (.inl rfl))
          have h1i : (1 : Int) ≤ (raw.size : Int) := by omega
          clear k29 k26 k1
          obtain ⟨q, hq⟩ : ∃ q, decodeB ((raw.extract 1 raw.size).data.toList) = q := ⟨_, rfl⟩
          have D1 := Lib.hid (D.out (raw.extract 1 raw.size) w2 T2.out (by simp only [ByteArray.size_extract]; omega))
          rw [hq] at D1
          have HQ := Lib.hid hq
          clear hq
          go_wp2_with fail
          refine (D1.out).mono ?_
          rintro x w3 ⟨rfl, hb3⟩
          go_wp2_with fail
          go_ret
          exact ⟨ret_str (by rw [← HQ.out, Lib.extract_to_end]; rfl), B2.out.trans (hb3.mono B2.out.size)⟩
        · by_cases k27 : kd = 27
          · subst k27
            have h1 : 1 ≤ raw.size := OK.out.1 (.inr (.inr rfl))
            have h1i : (0 : Int) ≤ (raw.size : Int) - 1 := by omega
            have h1n : ((raw.size : Int) - 1).toNat = raw.size - 1 := by omega
            clear k29 k26 k1 k28
            obtain ⟨q, hq⟩ : ∃ q, decodeB ((raw.extract 0 (raw.size - 1)).data.toList) = q := ⟨_, rfl⟩
            have D1 := Lib.hid (D.out (raw.extract 0 (raw.size - 1)) w2 T2.out (by simp only [ByteArray.size_extract]; omega))
            rw [hq] at D1
            have HQ := Lib.hid hq
            clear hq
            go_wp2_with fail
            refine (D1.out).mono ?_
            rintro x w3 ⟨rfl, hb3⟩
            go_wp2_with fail
            go_ret
            exact ⟨ret_str (by rw [← HQ.out, ext_list]; rfl), B2.out.trans (hb3.mono B2.out.size)⟩
          · by_cases k36 : kd = 36
            · subst k36
              have h1 : 2 ≤ raw.size := OK.out.2.1 rfl
              have h1i : (1 : Int) ≤ (raw.size : Int) - 1 := by omega
              have h1n : ((raw.size : Int) - 1).toNat = raw.size - 1 := by omega
              clear k29 k26 k1 k28 k27
              obtain ⟨q, hq⟩ : ∃ q, decodeB ((raw.extract 1 (raw.size - 1)).data.toList) = q := ⟨_, rfl⟩
              have D1 := Lib.hid (D.out (raw.extract 1 (raw.size - 1)) w2 T2.out (by simp only [ByteArray.size_extract]; omega))
              rw [hq] at D1
              have HQ := Lib.hid hq
              clear hq
              go_wp2_with fail
              refine (D1.out).mono ?_
              rintro x w3 ⟨rfl, hb3⟩
              go_wp2_with fail
              go_ret
              exact ⟨ret_str (by rw [← HQ.out, ext_list]; rfl), B2.out.trans (hb3.mono B2.out.size)⟩
            · have k37 := K37.out
              have ND := Lib.hid (show isDec kd = false from decide_eq_false (by omega))
              have t1 : ((kd : Int) == 29) = false := beq_eq_false_iff_ne.2 (by omega)
              have t2 : ((kd : Int) == 26) = false := beq_eq_false_iff_ne.2 (by omega)
              have t3 : ((kd : Int) == 1) = false := beq_eq_false_iff_ne.2 (by omega)
              have t4 : ((kd : Int) == 28) = false := beq_eq_false_iff_ne.2 (by omega)
              have t5 : ((kd : Int) == 27) = false := beq_eq_false_iff_ne.2 (by omega)
              have t6 : ((kd : Int) == 36) = false := beq_eq_false_iff_ne.2 (by omega)
              have t7 : ((kd : Int) == 37) = false := beq_eq_false_iff_ne.2 (by omega)
              clear k29 k26 k1 k28 k27 k36 k37
              go_wp2_with fail
              go_ret
              refine ⟨show Ending.returned (.string raw) = _ from ?_, B2.out⟩
              unfold decText
              rw [ND.out, if_neg (by decide)]
end Go.Proofs.YtmgkccnfhkcncaaGreatDoor

namespace Go.Proofs.YtmgkccnfhkcncaaGreatDoor
open Go.RowKit
attribute [local go_sem ↓] Go.wp_at_zero Go.wp_at_succ

theorem rtrim_snoc (l : List UInt8) (x : UInt8) : rtrim (l ++ [x]) = if wsU x = true then rtrim l else l ++ [x] := by
  unfold rtrim
  rw [List.reverse_append]
  show ((x :: l.reverse).dropWhile wsU).reverse = _
  rw [List.dropWhile_cons]
  by_cases h : wsU x = true
  · rw [if_pos h, if_pos h]
  · rw [if_neg h, if_neg h]; simp
theorem mid_cons {raw : List UInt8} {j e : Nat} (hj : j < e) (he : e ≤ raw.length) : (raw.take e).drop j = raw[j] :: (raw.take e).drop (j + 1) := by
  have h : j < (raw.take e).length := by rw [List.length_take]; omega
  rw [List.drop_eq_getElem_cons h, List.getElem_take]
theorem mid_snoc {raw : List UInt8} {j m : Nat} (hj : j < m) (hm : m ≤ raw.length) : (raw.take m).drop j = (raw.take (m - 1)).drop j ++ [raw[m - 1]] := by
  have h : m - 1 < raw.length := by omega
  have e : raw.take m = raw.take (m - 1) ++ [raw[m - 1]] := by
    have := List.take_succ_eq_append_getElem h
    rw [show m - 1 + 1 = m by omega] at this
    exact this
  rw [e, List.drop_append_of_le_length (by rw [List.length_take]; omega)]
theorem byte_list (s : ByteArray) (k : Nat) (h : k < s.size) : s.data.toList[k]'(by show k < s.data.toList.length; exact h) = s[k] := rfl

set_option maxHeartbeats 8000000 in
set_option maxRecDepth 1000000 in
theorem decU (s : ByteArray) (a e : Nat) (uo fl : Int) (w : World) (hT : Lib.Utf8Tabs 0 1 w) (hae : a ≤ e) (hes : e ≤ s.size) (hs : s.size ≤ 1073741824) (hok : DecOk 37 ((s.extract a e).data.toList)) :
    Calls Tryz.prog 36 #[.agg #[.int .i32 (a : Int), .int .i32 ((e : Int) - a), .int .u16 uo, .int .u8 37, .int .u8 fl], .string s] w fun x w' => x = .returned (.string ⟨(decText 37 ((s.extract a e).data.toList)).toArray⟩) ∧ Below w.heap.size w w' := by
  obtain ⟨raw, hraw⟩ : ∃ raw, s.extract a e = raw := ⟨_, rfl⟩
  have hrz : raw.size = e - a := by rw [← hraw]; simp only [ByteArray.size_extract]; omega
  rw [hraw] at hok ⊢
  have hrs : raw.size ≤ 1073741824 := by omega
  have E := Lib.hid (fun w => rangeEndI a e w hae (by omega))
  have D := Lib.hid (fun (t : ByteArray) w hT (h : t.size ≤ 1073741824) => decodeIn t w (by omega) hT)
  obtain ⟨h4e, h1r⟩ := hok.2.2 rfl
  have hrl : raw.data.toList.length = raw.size := rfl
  rw [hrl] at h1r
  obtain ⟨tx, htx⟩ : ∃ tx, decText 37 raw.data.toList = tx := ⟨_, rfl⟩
  have HTX := Lib.hid (show decodeB (rtrim (((raw.data.toList.take (urlEnd raw.data.toList)).drop 4).dropWhile wsU)) = tx from htx)
  obtain ⟨e0, he0⟩ : ∃ e0, urlEnd raw.data.toList = e0 := ⟨_, rfl⟩
  rw [he0] at h4e HTX
  have he0r : e0 ≤ raw.size := by rw [← he0]; unfold urlEnd; rw [hrl]; split <;> omega
  have hlast : raw.size - 1 < raw.size := by omega
  obtain ⟨z, hz⟩ : ∃ z, raw[raw.size - 1] = z := ⟨_, rfl⟩
  have hzl : z.toNat ≤ 255 := by have := UInt8.toNat_lt z; omega
  have HE0 := Lib.hid (show (if z.toNat = 41 then raw.size - 1 else raw.size) = e0 by
    rw [← he0]
    unfold urlEnd
    rw [hrl, List.getElem?_eq_getElem (by rw [hrl]; exact hlast), byte_list raw _ hlast, hz]
    by_cases h41 : z.toNat = 41
    · rw [if_pos h41, if_pos (by rw [show z = 41 from UInt8.toNat_inj.1 h41])]
    · rw [if_neg h41, if_neg (fun h => h41 (by rw [Option.some.inj h]; rfl))])
  rw [htx]
  have T := Lib.hid hT
  have HRAW := Lib.hid hraw
  have HZ := Lib.hid hz
  have i0 : (0 : Int) ≤ (a : Int) := by omega
  have i1 : (a : Int) ≤ (e : Int) := by omega
  have i2 : (e : Int) ≤ (s.size : Int) := by omega
  clear hT hok hraw hrz htx he0 hrl hz
  go_enter Tryz.func36, Tryz.ntmps36
  go_upto_region 1 with fail
  obtain ⟨B, hB⟩ : ∃ B, w.heap.size = B := ⟨_, rfl⟩
  obtain ⟨w1, hw1⟩ : ∃ x, w.alloc (.cells #[.int .i32 (a : Int), .int .i32 ((e : Int) - a), .int .u16 uo, .int .u8 37, .int .u8 fl] 66) = x := ⟨_, rfl⟩
  have BK := Lib.hid (show w1.heap[B]? = some (.cells #[.int .i32 (a : Int), .int .i32 ((e : Int) - a), .int .u16 uo, .int .u8 37, .int .u8 fl] 66 (0, 0)) by rw [← hw1, ← hB]; exact heap_alloc_new w _)
  have B1 := Lib.hid (show Below w.heap.size w w1 by rw [← hw1]; exact (Below.refl _ _).alloc (Nat.le_refl _) _)
  have hlt : B < w1.heap.size := (Array.getElem?_eq_some_iff.1 BK.out).1
  have c0 : w1.cell? ⟨B, 0, none⟩ = some (.int .i32 (a : Int)) := by rw [Lib.cell_of_heap BK.out]; rfl
  have c1 : w1.cell? ⟨B, 1, none⟩ = some (.int .i32 ((e : Int) - a)) := by rw [Lib.cell_of_heap BK.out]; rfl
  have c3 : w1.cell? ⟨B, 3, none⟩ = some (.int .u8 37) := by rw [Lib.cell_of_heap BK.out]; rfl
  rw [hw1, hB]
  clear hw1 hB
  go_region_held3 (fun w' => w'.cell? ⟨B, 0, none⟩ = some (.int .i32 (a : Int)) ∧ w'.cell? ⟨B, 1, none⟩ = some (.int .i32 ((e : Int) - a))) (go_keep)
    ((go_at_call 35; refine (E.out _).mono ?_; rintro x w2 ⟨rfl, hb2⟩; have j0 := (hb2.cell (p := ⟨B, 0, none⟩) hlt).trans c0; have j1 := (hb2.cell (p := ⟨B, 1, none⟩) hlt).trans c1))
  have j3 := (hb2.cell (p := ⟨B, 3, none⟩) hlt).trans c3
  have B2 := Lib.hid (B1.out.trans ((below_undrew hb2).mono B1.out.size))
  have T2 := Lib.hid (Utf8Tabs_below T.out B2.out)
  clear hb2 c0 c1 c3 hlt
  have hraw := HRAW.out
  go_upto_region 2 with fail
  rw [hraw]
  clear hraw
  have hz := HZ.out
  have i3 : (1 : Int) ≤ (raw.size : Int) := by omega
  have i4 : ((raw.size : Int) - 1).toNat = raw.size - 1 := by omega
  go_upto_if 54 with fail
  go_cut [7] (fun v wx => v = .int .i64 (e0 : Int) ∧ wx = w2)
  case first =>
    by_cases h41 : z.toNat = 41
    · have t1 : ((z.toNat : Int) == 41) = true := beq_iff_eq.2 (by omega)
      have V := Lib.hid (show raw.size - 1 = e0 by rw [← HE0.out, if_pos h41])
      clear h41
      go_wp2_with fail
      go_meet
      have hv := V.out
      have i5 : (raw.size : Int) - 1 = (e0 : Int) := by omega
      exact ⟨by rw [i5], rfl⟩
    · have t1 : ((z.toNat : Int) == 41) = false := beq_eq_false_iff_ne.2 (by omega)
      have V := Lib.hid (show raw.size = e0 by rw [← HE0.out, if_neg h41])
      clear h41
      go_wp2_with fail
      go_meet
      exact ⟨by rw [V.out], rfl⟩
  case rest =>
    obtain ⟨rfl, rfl⟩ := hcut
    clear hz HZ i3 i4 hlast
    have HRL := Lib.hid (show raw.data.toList.length = raw.size from rfl)
    obtain ⟨A, hA⟩ : ∃ A, ((raw.data.toList.take e0).drop 4).dropWhile wsU = A := ⟨_, rfl⟩
    rw [hA] at HTX
    have HA := Lib.hid hA
    clear hA
    go_wp2_with fail
    go_loop [6] (fun v => ∃ j : Nat, v = .int .i64 (j : Int) ∧ j ≤ e0 ∧ ((raw.data.toList.take e0).drop j).dropWhile wsU = A) (fun v => e0 - (intOf v).toNat)
    case atStart => exact ⟨4, rfl, h4e, HA.out⟩
    case round =>
      obtain ⟨j, rfl, hje, hx⟩ := hrel
      by_cases hj : j < e0
      · have hji : (j : Int) < (e0 : Int) := by omega
        have hjr : j < raw.size := by omega
        rw [mid_cons hj (by rw [HRL.out]; exact he0r), byte_list raw j hjr, List.dropWhile_cons] at hx
        have hmid := mid_cons (raw := raw.data.toList) hj (by rw [HRL.out]; exact he0r)
        rw [byte_list raw j hjr] at hmid
        obtain ⟨y, hy⟩ : ∃ y, raw[j] = y := ⟨_, rfl⟩
        have hyl : y.toNat ≤ 255 := by have := UInt8.toNat_lt y; omega
        rw [hy] at hx hmid
        have MID := Lib.hid hmid
        have W := Lib.hid (fun w => lexSpace (y.toNat : Int) w)
        obtain ⟨q, hq⟩ : ∃ q, spB (y.toNat : Int) = q := ⟨_, rfl⟩
        rw [hq] at W
        rw [show wsU y = q from hq] at hx
        have X := Lib.hid hx
        clear hx hmid hq
        cases q
        · have HA2 := Lib.hid (show rtrim ((raw.data.toList.take e0).drop j) = rtrim A by rw [MID.out]; exact congrArg rtrim X.out)
          go_wp2_with (go_at_call 62; refine (W.out _).mono ?_; rintro e w' ⟨rfl, rfl⟩)
          go_loop [7] (fun v => ∃ m : Nat, v = .int .i64 (m : Int) ∧ j ≤ m ∧ m ≤ e0 ∧ rtrim ((raw.data.toList.take m).drop j) = rtrim A) (fun v => (intOf v).toNat - j)
          case atStart => exact ⟨e0, rfl, hje, Nat.le_refl _, HA2.out⟩
          case round =>
            obtain ⟨m, rfl, hjm, hme, hx⟩ := hrel
            by_cases hj : j < m
            · have hji : (j : Int) < (m : Int) := by omega
              have hm1 : m - 1 < raw.size := by omega
              have hmn : ((m : Int) - 1).toNat = m - 1 := by omega
              have hm0 : (0 : Int) ≤ (m : Int) - 1 := by omega
              have hmc : ((m - 1 : Nat) : Int) = (m : Int) - 1 := by omega
              have hmid := mid_snoc (raw := raw.data.toList) hj (by rw [HRL.out]; omega)
              rw [byte_list raw (m - 1) hm1] at hmid
              rw [hmid, rtrim_snoc] at hx
              obtain ⟨y, hy⟩ : ∃ y, raw[m - 1] = y := ⟨_, rfl⟩
              have hyl : y.toNat ≤ 255 := by have := UInt8.toNat_lt y; omega
              rw [hy] at hx hmid
              have MID := Lib.hid hmid
              have MC := Lib.hid hmc
              have W := Lib.hid (fun w => lexSpace (y.toNat : Int) w)
              obtain ⟨q, hq⟩ : ∃ q, spB (y.toNat : Int) = q := ⟨_, rfl⟩
              rw [hq] at W
              rw [show wsU y = q from hq] at hx
              have X := Lib.hid hx
              clear hx hmid hq hmc
              cases q
              · obtain ⟨dq, hdq⟩ : ∃ dq, decodeB ((raw.extract j m).data.toList) = dq := ⟨_, rfl⟩
                have D1 := Lib.hid (D.out (raw.extract j m) _ T2.out (by simp only [ByteArray.size_extract]; omega))
                rw [hdq] at D1
                have HDQ := Lib.hid hdq
                clear hdq
                have k0 : (0 : Int) ≤ (j : Int) := by omega
                have k1 : (m : Int) ≤ (raw.size : Int) := by omega
                go_wp2_with (go_at_call 62; refine (W.out _).mono ?_; rintro e w' ⟨rfl, rfl⟩)
                refine (D1.out).mono ?_
                rintro x w3 ⟨rfl, hb3⟩
                go_wp2_with fail
                go_ret
                exact ⟨ret_str (by rw [← HDQ.out, ext_list, ← HTX.out, ← X.out, MID.out]; rfl), B2.out.trans (hb3.mono B2.out.size)⟩
              · go_wp2_with (go_at_call 62; refine (W.out _).mono ?_; rintro e w' ⟨rfl, rfl⟩)
                go_round
                case rel => exact ⟨m - 1, by rw [MC.out], by omega, by omega, X.out⟩
                case measure => simp [intOf]; omega
            · have hji : ¬ (j : Int) < (m : Int) := by omega
              have hjm' : m = j := by omega
              have hnil : (raw.data.toList.take m).drop j = [] := List.drop_eq_nil_of_le (by rw [List.length_take]; omega)
              rw [hnil] at hx
              have X := Lib.hid hx
              have HN := Lib.hid hnil
              obtain ⟨dq, hdq⟩ : ∃ dq, decodeB ((raw.extract j m).data.toList) = dq := ⟨_, rfl⟩
              have D1 := Lib.hid (D.out (raw.extract j m) _ T2.out (by simp only [ByteArray.size_extract]; omega))
              rw [hdq] at D1
              have HDQ := Lib.hid hdq
              have k0 : (0 : Int) ≤ (j : Int) := by omega
              have k1 : (m : Int) ≤ (raw.size : Int) := by omega
              have k2 : (j : Int) ≤ (m : Int) := by omega
              clear hdq hx hnil hjm'
              go_wp2_with fail
              refine (D1.out).mono ?_
              rintro x w3 ⟨rfl, hb3⟩
              go_wp2_with fail
              go_ret
              exact ⟨ret_str (by rw [← HDQ.out, ext_list, HN.out, ← HTX.out, ← X.out]; rfl), B2.out.trans (hb3.mono B2.out.size)⟩
        · go_wp2_with (go_at_call 62; refine (W.out _).mono ?_; rintro e w' ⟨rfl, rfl⟩)
          go_round
          case rel => exact ⟨j + 1, by go_num, by omega, X.out⟩
          case measure => simp [intOf]; omega
      · have hji : ¬ (j : Int) < (e0 : Int) := by omega
        have hnil : (raw.data.toList.take e0).drop j = [] := List.drop_eq_nil_of_le (by rw [List.length_take]; omega)
        rw [hnil] at hx
        have X := Lib.hid hx
        have HN := Lib.hid hnil
        clear hx hnil
        have HA2 := Lib.hid (show rtrim ((raw.data.toList.take e0).drop j) = rtrim A by rw [HN.out]; exact congrArg rtrim X.out)
        go_wp2_with fail
        go_loop [7] (fun v => ∃ m : Nat, v = .int .i64 (m : Int) ∧ j ≤ m ∧ m ≤ e0 ∧ rtrim ((raw.data.toList.take m).drop j) = rtrim A) (fun v => (intOf v).toNat - j)
        case atStart => exact ⟨e0, rfl, hje, Nat.le_refl _, HA2.out⟩
        case round =>
          obtain ⟨m, rfl, hjm, hme, hx⟩ := hrel
          by_cases hj : j < m
          · have hji : (j : Int) < (m : Int) := by omega
            have hm1 : m - 1 < raw.size := by omega
            have hmn : ((m : Int) - 1).toNat = m - 1 := by omega
            have hm0 : (0 : Int) ≤ (m : Int) - 1 := by omega
            have hmc : ((m - 1 : Nat) : Int) = (m : Int) - 1 := by omega
            have hmid := mid_snoc (raw := raw.data.toList) hj (by rw [HRL.out]; omega)
            rw [byte_list raw (m - 1) hm1] at hmid
            rw [hmid, rtrim_snoc] at hx
            obtain ⟨y, hy⟩ : ∃ y, raw[m - 1] = y := ⟨_, rfl⟩
            have hyl : y.toNat ≤ 255 := by have := UInt8.toNat_lt y; omega
            rw [hy] at hx hmid
            have MID := Lib.hid hmid
            have MC := Lib.hid hmc
            have W := Lib.hid (fun w => lexSpace (y.toNat : Int) w)
            obtain ⟨q, hq⟩ : ∃ q, spB (y.toNat : Int) = q := ⟨_, rfl⟩
            rw [hq] at W
            rw [show wsU y = q from hq] at hx
            have X := Lib.hid hx
            clear hx hmid hq hmc
            cases q
            · obtain ⟨dq, hdq⟩ : ∃ dq, decodeB ((raw.extract j m).data.toList) = dq := ⟨_, rfl⟩
              have D1 := Lib.hid (D.out (raw.extract j m) _ T2.out (by simp only [ByteArray.size_extract]; omega))
              rw [hdq] at D1
              have HDQ := Lib.hid hdq
              clear hdq
              have k0 : (0 : Int) ≤ (j : Int) := by omega
              have k1 : (m : Int) ≤ (raw.size : Int) := by omega
              go_wp2_with (go_at_call 62; refine (W.out _).mono ?_; rintro e w' ⟨rfl, rfl⟩)
              refine (D1.out).mono ?_
              rintro x w3 ⟨rfl, hb3⟩
              go_wp2_with fail
              go_ret
              exact ⟨ret_str (by rw [← HDQ.out, ext_list, ← HTX.out, ← X.out, MID.out]; rfl), B2.out.trans (hb3.mono B2.out.size)⟩
            · go_wp2_with (go_at_call 62; refine (W.out _).mono ?_; rintro e w' ⟨rfl, rfl⟩)
              go_round
              case rel => exact ⟨m - 1, by rw [MC.out], by omega, by omega, X.out⟩
              case measure => simp [intOf]; omega
          · have hji : ¬ (j : Int) < (m : Int) := by omega
            have hjm' : m = j := by omega
            have hnil : (raw.data.toList.take m).drop j = [] := List.drop_eq_nil_of_le (by rw [List.length_take]; omega)
            rw [hnil] at hx
            have X := Lib.hid hx
            have HN := Lib.hid hnil
            obtain ⟨dq, hdq⟩ : ∃ dq, decodeB ((raw.extract j m).data.toList) = dq := ⟨_, rfl⟩
            have D1 := Lib.hid (D.out (raw.extract j m) _ T2.out (by simp only [ByteArray.size_extract]; omega))
            rw [hdq] at D1
            have HDQ := Lib.hid hdq
            have k0 : (0 : Int) ≤ (j : Int) := by omega
            have k1 : (m : Int) ≤ (raw.size : Int) := by omega
            have k2 : (j : Int) ≤ (m : Int) := by omega
            clear hdq hx hnil hjm'
            go_wp2_with fail
            refine (D1.out).mono ?_
            rintro x w3 ⟨rfl, hb3⟩
            go_wp2_with fail
            go_ret
            exact ⟨ret_str (by rw [← HDQ.out, ext_list, HN.out, ← HTX.out, ← X.out]; rfl), B2.out.trans (hb3.mono B2.out.size)⟩
end Go.Proofs.YtmgkccnfhkcncaaGreatDoor
