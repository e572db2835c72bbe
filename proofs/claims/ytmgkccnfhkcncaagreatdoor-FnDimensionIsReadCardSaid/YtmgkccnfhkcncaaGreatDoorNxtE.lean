/-
  css_lexer's lexer: next, at the end of the text.
-/
import Derived.Test.YtmgkccnfhkcncaaGreatDoorNxtI
namespace Go.Proofs.YtmgkccnfhkcncaaGreatDoor
open Go.RowKit

set_option maxHeartbeats 8000000 in
set_option maxRecDepth 1000000 in
theorem nextE (b : Nat) (P : Nat → Option Value) (s : ByteArray) (st0 : Nat) (uo0 kd0 fl0 : Int) (w : World) (h : LR b P s [] st0 uo0 kd0 fl0 w) :
    Calls Tryz.prog 80 #[.pointer (some ⟨b, 0, none⟩)] w fun e w' => NxP b P s [] s.size 0 0 0 w e w' := by
  have H0 := Lib.hid h
  obtain ⟨k, hA, hst, hk, hss, -, -, c35, c36, c37⟩ := h.reads
  have hks : k = s.size := by have := hA.size; simpa using this
  subst hks
  have HA := Lib.hid hA
  have E := Lib.hid (fun w => rangeEndI st0 s.size w hst (by omega))
  have c38 := h.c38
  obtain ⟨c39, c40⟩ := h.c3940
  have hlt := h.lt
  have z36 := h.fz 36
  have z37 := h.fz 37
  have z38 := h.fz 38
  have z39 := h.fz 39
  have z40 := h.fz 40
  rw [hdB_nil] at c35
  clear h hA
  go_enter Tryz.func80, Tryz.ntmps80
  go_wp2_with fail
  refine wp_loop_rounds 1 ?_
  rw [rounds_succ]
  go_wp2_with fail
  refine (E.out _).mono ?_
  rintro e w1 ⟨rfl, hb1⟩
  have d35 := (hb1.cell (p := ⟨b, 35, none⟩) hlt).trans c35
  have d36 := (hb1.cell (p := ⟨b, 36, none⟩) hlt).trans c36
  have d37 := (hb1.cell (p := ⟨b, 37, none⟩) hlt).trans c37
  have d38 := (hb1.cell (p := ⟨b, 38, none⟩) hlt).trans c38
  have d39 := (hb1.cell (p := ⟨b, 39, none⟩) hlt).trans c39
  have d40 := (hb1.cell (p := ⟨b, 40, none⟩) hlt).trans c40
  have y36 := (hb1.frozen (p := ⟨b, 36, none⟩) hlt).trans z36
  have y37 := (hb1.frozen (p := ⟨b, 37, none⟩) hlt).trans z37
  have y38 := (hb1.frozen (p := ⟨b, 38, none⟩) hlt).trans z38
  have y39 := (hb1.frozen (p := ⟨b, 39, none⟩) hlt).trans z39
  have y40 := (hb1.frozen (p := ⟨b, 40, none⟩) hlt).trans z40
  have H1 := Lib.hid (H0.out.fr hb1)
  have F1 := Lib.hid (Fr.of (b := b) hb1)
  clear hb1 c35 c36 c37 c38 c39 c40 z36 z37 z38 z39 z40 H0 E
  go_upto_region 1 with fail
  obtain ⟨w2, hw2⟩ : ∃ x, (((((w1.setCell ⟨b, 36, none⟩ (.int .i32 (s.size : Int))).setCell ⟨b, 37, none⟩ (.int .i32 0)).setCell ⟨b, 38, none⟩ (.int .u16 0)).setCell ⟨b, 39, none⟩ (.int .u8 0)).setCell ⟨b, 40, none⟩ (.int .u8 0)) = x := ⟨_, rfl⟩
  rw [hw2]
  have hL2 : LR b P s [] s.size 0 0 0 w2 := by rw [← hw2]; exact H1.out.begin HA.out
  have F2 := Lib.hid (show Fr b w w2 by rw [← hw2]; exact F1.out.trans (((((Fr.setCell w1 36 _).trans (Fr.setCell _ 37 _)).trans (Fr.setCell _ 38 _)).trans (Fr.setCell _ 39 _)).trans (Fr.setCell _ 40 _)))
  clear hw2 d35 d36 d37 d38 d39 d40 y36 y37 y38 y39 y40 H1 F1
  obtain ⟨k', hA', hst', hk', hss', -, -, c35, c36, c37⟩ := hL2.reads
  clear hA' hk' hss' hst' c36 c37
  obtain ⟨c39, c40⟩ := hL2.c3940
  have z39 := hL2.fz 39
  have H2 := Lib.hid hL2
  rw [hdB_nil] at c35
  clear hL2
  go_wp2_with fail
  go_end0
  exact nx_fin (H2.out.set39 0) (F2.out.trans (Fr.setCell _ 39 _))
end Go.Proofs.YtmgkccnfhkcncaaGreatDoor
