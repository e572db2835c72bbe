/-
  spec.HasMark; spec.IsURL.
-/
import Derived.Test.YtmgkccnfhkcncaaGreatDoorMathQ
namespace Go.Proofs.YtmgkccnfhkcncaaGreatDoor
open Go.RowKit

theorem mark_eq (s : ByteArray) (h : 3 ≤ s.size) : ((s.extract 0 3).toList == [239, 187, 191]) = markB s.data.toList := by
  rw [Lib.toList_data, Lib.extract_data]
  obtain ⟨⟨l⟩⟩ := s
  match l, h with
  | a :: b :: c :: t, _ =>
    rw [Bool.eq_iff_iff, beq_iff_eq]
    show [a, b, c] = _ ↔ _
    simp [markB]
theorem mark_short (s : ByteArray) (h : ¬ 3 ≤ s.size) : markB s.data.toList = false := by
  obtain ⟨⟨l⟩⟩ := s
  match l, h with
  | [], _ => rfl
  | [a], _ => rfl
  | [a, b], _ => rfl
  | a :: b :: c :: t, h => exact absurd (by show 3 ≤ (a :: b :: c :: t).length; simp) h
set_option maxHeartbeats 4000000 in
set_option maxRecDepth 100000 in
theorem hasMark (s : ByteArray) (w : World) (hs : s.size ≤ 2147483648) : Calls Tryz.prog 16 #[.string s] w fun e w' => e = .returned (.bool (markB s.data.toList)) ∧ w = w' := by
  by_cases h : 3 ≤ s.size
  · have HM := Lib.hid (mark_eq s h)
    go_enter Tryz.func16, Tryz.ntmps16
    go_wp2_with fail
    go_ret
    exact ⟨ret_bool HM.out, rfl⟩
  · have HM := Lib.hid (mark_short s h)
    go_enter Tryz.func16, Tryz.ntmps16
    go_wp2_with fail
    go_ret
    exact ⟨ret_bool HM.out.symm, rfl⟩
theorem isURLX (s : ByteArray) (w : World) (hs : s.size ≤ 2147483648) : Calls Tryz.prog 29 #[.string s] w fun e w' => e = .returned (.bool (isUrlB s.data.toList)) ∧ w = w' := by
  have U := Lib.hid (isUrlL s w (by omega))
  go_enter Tryz.func29, Tryz.ntmps29
  go_wp2_with fail
  refine (U.out).mono ?_
  rintro e w' ⟨rfl, hww⟩
  first | (obtain rfl : _ = w' := hww) | (obtain rfl : _ = w' := hww.symm)
  go_wp2_with fail
  go_ret
  exact ⟨rfl, rfl⟩
end Go.Proofs.YtmgkccnfhkcncaaGreatDoor
