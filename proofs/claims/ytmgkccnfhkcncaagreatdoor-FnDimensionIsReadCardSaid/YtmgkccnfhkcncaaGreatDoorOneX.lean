/-
  laws.one at a written text that is one token; wakes.
-/
import Derived.Test.YtmgkccnfhkcncaaGreatDoorImp
import Derived.Test.YtmgkccnfhkcncaaGreatDoorMathQ
namespace Go.Proofs.YtmgkccnfhkcncaaGreatDoor
open Go.RowKit
attribute [local go_sem ↓] Go.wp_at_zero Go.wp_at_succ

theorem bytes_of (t : ByteArray) (l : List UInt8) (h : l = t.data.toList) : (⟨l.toArray⟩ : ByteArray) = t := by
  obtain ⟨⟨d⟩⟩ := t
  subst h; rfl
theorem oneX (m : List Nat) (hc : ∀ c ∈ m, Cp c) (kd uo fl : Nat) (tx : ByteArray) (w : World) (hT : Lib.Utf8Tabs 0 1 w) (hs : (strOf m).size ≤ 1073741824) (hb : m.head? ≠ some 65279) (hne : m ≠ []) (hn : nxB (encs m) = some (kd, uo, fl, [])) (hk0 : kd ≠ 0) (hk : kd ≤ 37) (hu : uo ≤ 65535) (hd : DecOk kd (encs m)) (hf : fl = 0 ∨ fl = 1) (htx : decText kd (encs m) = tx.data.toList) :
    Calls Tryz.prog 20 #[.string (strOf m)] w fun e w' => e = .returned (.tuple #[.agg #[.int .i64 (kd : Int), .int .i64 0, .int .i64 ((strOf m).size : Int), .int .i64 (uo : Int), .bool (fl == 1), .string tx], .bool true]) ∧ Below w.heap.size w w' := by
  have h := oneI (strOf m) ⟨kd, uo, fl, 0, (strOf m).size⟩ w hT hs (hdB_first m hc hb) (tokB_one m kd uo fl hn hne hk0 hu) (tkOk_one m kd uo fl (by omega) hu hd hf) (by show kd ≠ 38; omega) rfl rfl
  have e : tiC (strOf m) ⟨kd, uo, fl, 0, (strOf m).size⟩ = [.int .i64 (kd : Int), .int .i64 0, .int .i64 ((strOf m).size : Int), .int .i64 (uo : Int), .bool (fl == 1), .string tx] := by
    unfold tiC
    dsimp only
    rw [strOf_all, strOf_list, bytes_of tx _ htx]
    rfl
  rw [e] at h
  exact h

/-- Texts of code points, one behind the other. -/
theorem cat_strOf (a b : List Nat) : strOf a ++ strOf b = strOf (a ++ b) := by
  refine eq_strOf ?_
  rw [app_list, strOf_list, strOf_list, encs_append]
theorem ch_strOf (c : Nat) (h : c < 128) : (⟨#[c.toUInt8]⟩ : ByteArray) = strOf [c] := by
  refine eq_strOf ?_
  rw [encs_one, enc_ascii c h]
theorem cons_strOf (c : Nat) (h : c < 128) (a : List Nat) : (⟨#[c.toUInt8]⟩ : ByteArray) ++ strOf a = strOf (c :: a) := by
  rw [ch_strOf c h, cat_strOf]; rfl
theorem snoc_strOf (a : List Nat) (c : Nat) (h : c < 128) : strOf a ++ (⟨#[c.toUInt8]⟩ : ByteArray) = strOf (a ++ [c]) := by
  rw [ch_strOf c h, cat_strOf]

/-! ### wakes -/
def wakeS : ByteArray := ⟨#[97, 58, 49]⟩
def wakeT : List TkB := [⟨29, 0, 0, 0, 1⟩, ⟨9, 0, 0, 1, 2⟩, ⟨30, 0, 0, 2, 3⟩]
theorem wake_nx1 : nxB [97, 58, 49] = some (29, 0, 0, [58, 49]) := by decide +kernel
theorem wake_nx2 : nxB [58, 49] = some (9, 0, 0, [49]) := by decide +kernel
theorem wake_nx3 : nxB [49] = some (30, 0, 0, []) := by decide +kernel
theorem wake_tok : TokB wakeS.size wakeT wakeS.data.toList :=
  ⟨by decide, by decide, by decide, [58, 49], wake_nx1, rfl, rfl, by decide, by decide, by decide, by decide, [49], wake_nx2, rfl, rfl, by decide, by decide, by decide, by decide, [], wake_nx3, rfl, rfl, by decide, rfl⟩
theorem wake_ok : ∀ t ∈ wakeT, TkOk wakeS t := by
  intro t ht
  unfold wakeT at ht
  simp only [List.mem_cons, List.not_mem_nil, or_false] at ht
  rcases ht with rfl | rfl | rfl
  · exact ⟨by decide, by decide, by decide, by decide, ⟨by decide, by decide, by decide⟩, .inl rfl⟩
  · exact ⟨by decide, by decide, by decide, by decide, ⟨by decide, by decide, by decide⟩, .inl rfl⟩
  · exact ⟨by decide, by decide, by decide, by decide, ⟨by decide, by decide, by decide⟩, .inl rfl⟩
theorem wake_t0 : tiC wakeS ⟨29, 0, 0, 0, 1⟩ = [.int .i64 29, .int .i64 0, .int .i64 1, .int .i64 0, .bool false, .string ⟨#[97]⟩] := by
  unfold tiC
  have e : decText 29 ((wakeS.extract 0 1).data.toList) = [97] := by decide +kernel
  dsimp only
  rw [e]
  rfl

theorem implStarts (w : World) : Calls Tryz.prog 31 #[.int .i32 97] w fun e w' => e = .returned (.bool true) ∧ w = w' := by
  have N := Lib.hid (fun w => isNameStart 97 w)
  rw [show nsB 97 = true by decide] at N
  go_enter Tryz.func31, Tryz.ntmps31
  go_wp2_with fail
  refine (N.out _).mono ?_
  rintro e w' ⟨rfl, hww⟩
  first | (obtain rfl : _ = w' := hww) | (obtain rfl : _ = w' := hww.symm)
  go_wp2_with fail
  go_ret
  exact ⟨rfl, rfl⟩
set_option maxHeartbeats 4000000 in
set_option maxRecDepth 1000000 in
theorem wakesI (w : World) (hT : Lib.Utf8Tabs 0 1 w) :
    Calls Tryz.prog 13 #[] w fun e w' => e = .returned (.bool true) ∧ Below w.heap.size w w' := by
  have TI := Lib.hid (tokensI wakeS wakeT w hT (by decide) (by decide +kernel) wake_tok wake_ok)
  have SI := Lib.hid (fun w => implStarts w)
  clear hT
  go_enter Tryz.func13, Tryz.ntmps13
  go_wp2_with fail
  refine (TI.out).mono ?_
  rintro e w1 ⟨tv, rfl, hown, hb1⟩
  obtain ⟨g, oc, rfl, hg⟩ : ∃ g oc, tv = .slice (some ⟨g, 0, none⟩) 3 oc ∧ w.heap.size ≤ g := by
    rcases hown.2 with ⟨h1, h2⟩ | ⟨g, cap, cur, h1, h2, h3, -⟩
    · cases h2
    · exact ⟨g, _, h1, h2⟩
  have C := Lib.hid (fun i t ht j u hj => ti_cells (i := i) (t := t) hown rfl ht j u hj)
  have d0 : w1.cell? ⟨g, 0, none⟩ = some (.int .i64 29) := C.out 0 _ rfl 0 _ (by rw [wake_t0]; rfl)
  have d5 : w1.cell? ⟨g, 5, none⟩ = some (.string ⟨#[97]⟩) := C.out 0 _ rfl 5 _ (by rw [wake_t0]; rfl)
  have d6 : w1.cell? ⟨g, 6, none⟩ = some (.int .i64 9) := C.out 1 _ rfl 0 _ rfl
  have d12 : w1.cell? ⟨g, 12, none⟩ = some (.int .i64 30) := C.out 2 _ rfl 0 _ rfl
  clear hown
  go_wp2_with fail
  refine (SI.out _).mono ?_
  rintro e w' ⟨rfl, rfl⟩
  go_wp2_with fail
  go_ret
  exact ⟨rfl, hb1⟩
end Go.Proofs.YtmgkccnfhkcncaaGreatDoor
