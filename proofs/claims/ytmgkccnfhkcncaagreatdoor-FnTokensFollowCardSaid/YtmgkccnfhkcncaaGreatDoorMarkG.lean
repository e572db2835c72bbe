/-
  spec.HasMark and what it says; spec.Unclosed; no byte order mark stands ahead of another text.
-/
import Derived.Test.YtmgkccnfhkcncaaGreatDoorFol
import Derived.Lib.MapLaws
namespace Go.Proofs.YtmgkccnfhkcncaaGreatDoor
open Go.RowKit

/-- A byte order mark. -/
def markQ (l : List UInt8) : Bool := l.take 3 == [239, 187, 191]
theorem markQ_hd {l : List UInt8} (h : hdB l = 65279) : markQ l = true := by
  have hne : l ≠ [] := by
    rintro rfl
    rw [hdB_nil] at h
    omega
  rw [hdB_cons hne] at h
  have h1 : (Lib.decodeL l).1 = 65279 := by omega
  have h2 := Lib.encode_decode l hne (by omega)
  rw [h1] at h2
  have e : Lib.encodeRune ((65279 : Nat) : Int) = [239, 187, 191] := by decide +kernel
  rw [e] at h2
  have h3 := congrArg List.length h2
  rw [List.length_take] at h3
  simp only [List.length_cons, List.length_nil] at h3
  have h4 := congrArg (List.take 3) h2
  rw [List.take_take, Nat.min_eq_left (by omega)] at h4
  unfold markQ
  rw [← h4]
  decide
theorem markQ_eq (s : ByteArray) (h : 3 ≤ s.size) : ((s.extract 0 3).toList == [239, 187, 191]) = markQ s.data.toList := by
  rw [Lib.toList_data, Lib.extract_data]
  obtain ⟨⟨l⟩⟩ := s
  match l, h with
  | a :: b :: c :: t, _ => rfl
theorem markQ_short (s : ByteArray) (h : ¬ 3 ≤ s.size) : markQ s.data.toList = false := by
  obtain ⟨⟨l⟩⟩ := s
  match l, h with
  | [], _ => rfl
  | [a], _ => simp [markQ]
  | [a, b], _ => simp [markQ]
  | a :: b :: c :: t, h => exact absurd (by show 3 ≤ (a :: b :: c :: t).length; simp) h
set_option maxHeartbeats 4000000 in
set_option maxRecDepth 100000 in
theorem hasMarkG (s : ByteArray) (w : World) (hs : s.size ≤ 2147483648) : Calls Tryz.prog 16 #[.string s] w fun e w' => e = .returned (.bool (markQ s.data.toList)) ∧ w = w' := by
  by_cases h : 3 ≤ s.size
  · have HM := Lib.hid (markQ_eq s h)
    go_enter Tryz.func16, Tryz.ntmps16
    go_wp2_with fail
    go_ret
    exact ⟨ret_bool HM.out, rfl⟩
  · have HM := Lib.hid (markQ_short s h)
    go_enter Tryz.func16, Tryz.ntmps16
    go_wp2_with fail
    go_ret
    exact ⟨ret_bool HM.out.symm, rfl⟩
theorem slash_eq (t : ByteArray) (r : List UInt8) (h : t.data.toList = 47 :: 42 :: r) : ((t.extract 0 2).toList == [47, 42]) = true := by
  rw [Lib.toList_data, Lib.extract_data]
  obtain ⟨⟨l⟩⟩ := t
  obtain rfl : l = 47 :: 42 :: r := h
  rfl
/-- A comment that does not end. -/
def NoEnd (t : ByteArray) : Prop := ∀ i (h : i + 1 < t.size), 2 ≤ i → ¬ (t[i].toNat = 42 ∧ t[i + 1].toNat = 47)
set_option maxHeartbeats 4000000 in
set_option maxRecDepth 100000 in
theorem unclosedI (t : ByteArray) (r : List UInt8) (w : World) (ht : t.data.toList = 47 :: 42 :: r) (hn : NoEnd t) (hz : t.size ≤ 1048576) :
    Calls Tryz.prog 18 #[.string t] w fun e w' => e = .returned (.bool true) ∧ w = w' := by
  have e := slash_eq t r ht
  have hs : 2 ≤ t.size := by
    have : t.data.toList.length = t.size := rfl
    rw [ht] at this
    simp only [List.length_cons] at this
    omega
  have NE := Lib.hid hn
  clear ht hn
  have g0 : decide ((t.size : Int) < 2) = false := decide_eq_false (by omega)
  go_enter Tryz.func18, Tryz.ntmps18
  go_wp2_with fail
  go_loopw [3] (fun iv wr => ∃ i : Nat, iv = .int .i64 (i : Int) ∧ 2 ≤ i ∧ i ≤ t.size ∧ w = wr) (fun iv _ => t.size - (match iv with | .int _ v => v.toNat | _ => 0))
  case atStart => exact ⟨2, rfl, Nat.le_refl _, hs, rfl⟩
  case round =>
    obtain ⟨i, rfl, hi2, hit, rfl⟩ := hrel
    have wi : IntKind.i64.wrap ((i : Int) + 1) = (i : Int) + 1 := IntWalk.i64_in _ (by omega)
    by_cases hi : i + 1 < t.size
    · have g1 : decide ((i : Int) + 1 < (t.size : Int)) = true := decide_eq_true (by omega)
      obtain ⟨x, hx⟩ : ∃ x, t[i] = x := ⟨_, rfl⟩
      obtain ⟨y, hy⟩ : ∃ y, t[i + 1] = y := ⟨_, rfl⟩
      have hxy := NE.out i hi hi2
      rw [hx, hy] at hxy
      have j0 : ((i : Int)).toNat = i := by omega
      have j1 : ((i : Int) + 1).toNat = i + 1 := by omega
      by_cases h42 : x.toNat = 42
      · have k0 : ((x.toNat : Int) == 42) = true := beq_iff_eq.2 (by omega)
        have k1 : ((y.toNat : Int) == 47) = false := beq_eq_false_iff_ne.2 (by omega)
        clear h42 hxy
        go_wp2_with fail
        exact ⟨⟨i + 1, rfl, by omega, by omega, trivial⟩, by show t.size - ((i : Int) + 1).toNat < t.size - (i : Int).toNat; omega⟩
      · have k0 : ((x.toNat : Int) == 42) = false := beq_eq_false_iff_ne.2 (by omega)
        clear h42 hxy
        go_wp2_with fail
        exact ⟨⟨i + 1, rfl, by omega, by omega, trivial⟩, by show t.size - ((i : Int) + 1).toNat < t.size - (i : Int).toNat; omega⟩
    · have g1 : decide ((i : Int) + 1 < (t.size : Int)) = false := decide_eq_false (by omega)
      go_wp2_with fail
      go_ret
      exact ⟨rfl, rfl⟩
end Go.Proofs.YtmgkccnfhkcncaaGreatDoor
