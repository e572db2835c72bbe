/-
  css_lexer's tokens: DecodedText.
-/
import Derived.Test.YtmgkccnfhkcncaaGreatDoorLoopI
import Derived.Deep.DeepCutAuto
import Derived.Deep.CutBlock
namespace Go.Proofs.YtmgkccnfhkcncaaGreatDoor
open Go.RowKit
attribute [local go_sem ↓] Go.wp_at_zero Go.wp_at_succ

def wsU (x : UInt8) : Bool := spB (x.toNat : Int)
/-- Whitespace off the end. -/
def rtrim (l : List UInt8) : List UInt8 := (l.reverse.dropWhile wsU).reverse
/-- Where an address without its bracket ends. -/
def urlEnd (raw : List UInt8) : Nat := if raw[raw.length - 1]? = some 41 then raw.length - 1 else raw.length
/-- What DecodedText decodes. -/
def inner (kd : Nat) (raw : List UInt8) : List UInt8 :=
  if kd = 1 ∨ kd = 28 then raw.drop 1
  else if kd = 27 then raw.take (raw.length - 1)
  else if kd = 36 then (raw.take (raw.length - 1)).drop 1
  else if kd = 37 then rtrim (((raw.take (urlEnd raw)).drop 4).dropWhile wsU)
  else raw
/-- Is it one of the kinds that are decoded. -/
def isDec (kd : Nat) : Bool := decide (kd = 29 ∨ kd = 26 ∨ kd = 1 ∨ kd = 28 ∨ kd = 27 ∨ kd = 36 ∨ kd = 37)
def decText (kd : Nat) (raw : List UInt8) : List UInt8 := if isDec kd = true then decodeB (inner kd raw) else raw
/-- How long it must be. -/
def DecOk (kd : Nat) (raw : List UInt8) : Prop := (kd = 1 ∨ kd = 28 ∨ kd = 27 → 1 ≤ raw.length) ∧ (kd = 36 → 2 ≤ raw.length) ∧ (kd = 37 → 4 ≤ urlEnd raw ∧ 1 ≤ raw.length)

theorem ext_list (s : ByteArray) (a b : Nat) : (s.extract a b).data.toList = (s.data.toList.take b).drop a := by
  rw [Lib.extract_data, List.drop_take]

set_option maxHeartbeats 8000000 in
set_option maxRecDepth 1000000 in
theorem decT (s : ByteArray) (a e kd : Nat) (uo fl : Int) (w : World) (hT : Lib.Utf8Tabs 0 1 w) (hae : a ≤ e) (hes : e ≤ s.size) (hs : s.size ≤ 1073741824) (hk37 : kd ≠ 37) (hok : DecOk kd ((s.extract a e).data.toList)) :
    Calls Tryz.prog 36 #[.agg #[.int .i32 (a : Int), .int .i32 ((e : Int) - a), .int .u16 uo, .int .u8 (kd : Int), .int .u8 fl], .string s] w fun x w' => x = .returned (.string ⟨(decText kd ((s.extract a e).data.toList)).toArray⟩) ∧ Below w.heap.size w w' := by
  obtain ⟨raw, hraw⟩ : ∃ raw, s.extract a e = raw := ⟨_, rfl⟩
  have hrz : raw.size = e - a := by rw [← hraw]; simp only [ByteArray.size_extract]; omega
  rw [hraw] at hok ⊢
  have E := Lib.hid (fun w => rangeEndI a e w hae (by omega))
  have D := Lib.hid (fun (t : ByteArray) w hT (h : t.size ≤ 1073741824) => decodeIn t w (by omega) hT)
  have T := Lib.hid hT
  have OK := Lib.hid hok
  have HRAW := Lib.hid hraw
  have HRZ := Lib.hid hrz
  have i0 : (0 : Int) ≤ (a : Int) := by omega
  have i1 : (a : Int) ≤ (e : Int) := by omega
  have i2 : (e : Int) ≤ (s.size : Int) := by omega
  have K37 := Lib.hid hk37
  clear hT hok hraw hrz hk37
  go_enter Tryz.func36, Tryz.ntmps36
  go_upto_region 1 with fail
  obtain ⟨B, hB⟩ : ∃ B, w.heap.size = B := ⟨_, rfl⟩
  obtain ⟨w1, hw1⟩ : ∃ x, w.alloc (.cells #[.int .i32 (a : Int), .int .i32 ((e : Int) - a), .int .u16 uo, .int .u8 (kd : Int), .int .u8 fl] 66) = x := ⟨_, rfl⟩
  have BK := Lib.hid (show w1.heap[B]? = some (.cells #[.int .i32 (a : Int), .int .i32 ((e : Int) - a), .int .u16 uo, .int .u8 (kd : Int), .int .u8 fl] 66 (0, 0)) by rw [← hw1, ← hB]; exact heap_alloc_new w _)
  have B1 := Lib.hid (show Below w.heap.size w w1 by rw [← hw1]; exact (Below.refl _ _).alloc (Nat.le_refl _) _)
  have hlt : B < w1.heap.size := (Array.getElem?_eq_some_iff.1 BK.out).1
  have c0 : w1.cell? ⟨B, 0, none⟩ = some (.int .i32 (a : Int)) := by rw [Lib.cell_of_heap BK.out]; rfl
  have c1 : w1.cell? ⟨B, 1, none⟩ = some (.int .i32 ((e : Int) - a)) := by rw [Lib.cell_of_heap BK.out]; rfl
  have c3 : w1.cell? ⟨B, 3, none⟩ = some (.int .u8 (kd : Int)) := by rw [Lib.cell_of_heap BK.out]; rfl
  rw [hw1, hB]
  clear hw1 hB
  go_region_held3 (fun w' => w'.cell? ⟨B, 0, none⟩ = some (.int .i32 (a : Int)) ∧ w'.cell? ⟨B, 1, none⟩ = some (.int .i32 ((e : Int) - a))) (go_keep)
    ((go_at_call 35; refine (E.out _).mono ?_; rintro x w2 ⟨rfl, hb2⟩; have j0 := (hb2.cell (p := ⟨B, 0, none⟩) hlt).trans c0; have j1 := (hb2.cell (p := ⟨B, 1, none⟩) hlt).trans c1))
  have j3 := (hb2.cell (p := ⟨B, 3, none⟩) hlt).trans c3
  have B2 := Lib.hid (B1.out.trans ((below_undrew hb2).mono B1.out.size))
  have T2 := Lib.hid (Utf8Tabs_below T.out B2.out)
  clear hb2 c0 c1 c3 hlt
  have hraw := HRAW.out
  have hrs : raw.size ≤ 1073741824 := by have := HRZ.out; omega
  have hrl : raw.data.toList.length = raw.size := rfl
  have HRL := Lib.hid hrl
  clear hrl
  go_upto_region 2 with fail
  rw [hraw]
  clear hraw
  by_cases k29 : kd = 29
  · subst k29
    obtain ⟨q, hq⟩ : ∃ q, decodeB ((raw).data.toList) = q := ⟨_, rfl⟩
    have D1 := Lib.hid (D.out (raw) w2 T2.out (hrs))
    rw [hq] at D1
    have HQ := Lib.hid hq
    clear hq
    go_wp2_with fail
    refine (D1.out).mono ?_
    rintro x w3 ⟨rfl, hb3⟩
    go_wp2_with fail
    go_ret
    exact ⟨ret_str (by exact HQ.out.symm), B2.out.trans (hb3.mono B2.out.size)⟩
  · by_cases k26 : kd = 26
    · subst k26
      clear k29
      obtain ⟨q, hq⟩ : ∃ q, decodeB ((raw).data.toList) = q := ⟨_, rfl⟩
      have D1 := Lib.hid (D.out (raw) w2 T2.out (hrs))
      rw [hq] at D1
      have HQ := Lib.hid hq
      clear hq
      go_wp2_with fail
      refine (D1.out).mono ?_
      rintro x w3 ⟨rfl, hb3⟩
      go_wp2_with fail
      go_ret
      exact ⟨ret_str (by exact HQ.out.symm), B2.out.trans (hb3.mono B2.out.size)⟩
    · by_cases k1 : kd = 1
      · subst k1
        have h1 : 1 ≤ raw.size := OK.out.1 (.inl rfl)
        have h1i : (1 : Int) ≤ (raw.size : Int) := by omega
        clear k29 k26
        obtain ⟨q, hq⟩ : ∃ q, decodeB ((raw.extract 1 raw.size).data.toList) = q := ⟨_, rfl⟩
        have D1 := Lib.hid (D.out (raw.extract 1 raw.size) w2 T2.out (by simp only [ByteArray.size_extract]; omega))
        rw [hq] at D1
        have HQ := Lib.hid hq
        clear hq
        go_wp2_with fail
        refine (D1.out).mono ?_
        rintro x w3 ⟨rfl, hb3⟩
        go_wp2_with fail
        go_ret
        exact ⟨ret_str (by rw [← HQ.out, Lib.extract_to_end]; rfl), B2.out.trans (hb3.mono B2.out.size)⟩
      · by_cases k28 : kd = 28
        · subst k28
          have h1 : 1 ≤ raw.size := OK.out.1 (.inr (.inl rfl))
          have h1i : (1 : Int) ≤ (raw.size : Int) := by omega
          clear k29 k26 k1
          obtain ⟨q, hq⟩ : ∃ q, decodeB ((raw.extract 1 raw.size).data.toList) = q := ⟨_, rfl⟩
          have D1 := Lib.hid (D.out (raw.extract 1 raw.size) w2 T2.out (by simp only [ByteArray.size_extract]; omega))
          rw [hq] at D1
          have HQ := Lib.hid hq
          clear hq
          go_wp2_with fail
          refine (D1.out).mono ?_
          rintro x w3 ⟨rfl, hb3⟩
          go_wp2_with fail
          go_ret
          exact ⟨ret_str (by rw [← HQ.out, Lib.extract_to_end]; rfl), B2.out.trans (hb3.mono B2.out.size)⟩
        · by_cases k27 : kd = 27
          · subst k27
            have h1 : 1 ≤ raw.size := OK.out.1 (.inr (.inr rfl))
            have h1i : (0 : Int) ≤ (raw.size : Int) - 1 := by omega
            have h1n : ((raw.size : Int) - 1).toNat = raw.size - 1 := by omega
            clear k29 k26 k1 k28
            obtain ⟨q, hq⟩ : ∃ q, decodeB ((raw.extract 0 (raw.size - 1)).data.toList) = q := ⟨_, rfl⟩
            have D1 := Lib.hid (D.out (raw.extract 0 (raw.size - 1)) w2 T2.out (by simp only [ByteArray.size_extract]; omega))
            rw [hq] at D1
            have HQ := Lib.hid hq
            clear hq
            go_wp2_with fail
            refine (D1.out).mono ?_
            rintro x w3 ⟨rfl, hb3⟩
            go_wp2_with fail
            go_ret
            exact ⟨ret_str (by rw [← HQ.out, ext_list]; rfl), B2.out.trans (hb3.mono B2.out.size)⟩
          · by_cases k36 : kd = 36
            · subst k36
              have h1 : 2 ≤ raw.size := OK.out.2.1 rfl
              have h1i : (1 : Int) ≤ (raw.size : Int) - 1 := by omega
              have h1n : ((raw.size : Int) - 1).toNat = raw.size - 1 := by omega
              clear k29 k26 k1 k28 k27
              obtain ⟨q, hq⟩ : ∃ q, decodeB ((raw.extract 1 (raw.size - 1)).data.toList) = q := ⟨_, rfl⟩
              have D1 := Lib.hid (D.out (raw.extract 1 (raw.size - 1)) w2 T2.out (by simp only [ByteArray.size_extract]; omega))
              rw [hq] at D1
              have HQ := Lib.hid hq
              clear hq
              go_wp2_with fail
              refine (D1.out).mono ?_
              rintro x w3 ⟨rfl, hb3⟩
              go_wp2_with fail
              go_ret
              exact ⟨ret_str (by rw [← HQ.out, ext_list]; rfl), B2.out.trans (hb3.mono B2.out.size)⟩
            · have k37 := K37.out
              have ND := Lib.hid (show isDec kd = false from decide_eq_false (by omega))
              have t1 : ((kd : Int) == 29) = false := beq_eq_false_iff_ne.2 (by omega)
              have t2 : ((kd : Int) == 26) = false := beq_eq_false_iff_ne.2 (by omega)
              have t3 : ((kd : Int) == 1) = false := beq_eq_false_iff_ne.2 (by omega)
              have t4 : ((kd : Int) == 28) = false := beq_eq_false_iff_ne.2 (by omega)
              have t5 : ((kd : Int) == 27) = false := beq_eq_false_iff_ne.2 (by omega)
              have t6 : ((kd : Int) == 36) = false := beq_eq_false_iff_ne.2 (by omega)
              have t7 : ((kd : Int) == 37) = false := beq_eq_false_iff_ne.2 (by omega)
              clear k29 k26 k1 k28 k27 k36 k37
              go_wp2_with fail
              go_ret
              refine ⟨show Ending.returned (.string raw) = _ from ?_, B2.out⟩
              unfold decText
              rw [ND.out, if_neg (by decide)]
end Go.Proofs.YtmgkccnfhkcncaaGreatDoor
