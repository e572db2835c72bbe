/-
  spec.coded: what it writes; the world is as it was.
-/
import Derived.Test.YtmgkccnfhkcncaaGreatDoorPlain
namespace Go.Proofs.YtmgkccnfhkcncaaGreatDoor
open Go.RowKit

theorem hexTab_size : ({ data := #[48, 49, 50, 51, 52, 53, 54, 55, 56, 57, 97, 98, 99, 100, 101, 102] } : ByteArray).size = 16 := rfl
theorem hexTab_enc : ∀ j : Fin 16, (Utf8.encode ((({ data := #[48, 49, 50, 51, 52, 53, 54, 55, 56, 57, 97, 98, 99, 100, 101, 102] } : ByteArray)[j.val]'(by have := j.isLt; exact this)).toNat : Int)).data.toList = enc (hexDig j.val) := by decide +kernel

theorem digF_go {k : Nat} {ds : List Nat} (hk : 0 < k) : digF (k + 1) 1 k ds = digF (k / 16 + 1) 1 (k / 16) (hexDig (k % 16) :: ds) := by
  conv => lhs; unfold digF
  rw [if_pos (.inl hk)]
  exact digF_more _ _ _ _ _ (by simp only [List.length_cons]; omega) (by simp only [List.length_cons]; omega)
theorem digF_stop {ds : List Nat} (h : ds ≠ []) : digF (0 + 1) 1 0 ds = ds := by
  unfold digF
  rw [if_neg]
  have := List.length_pos_iff.2 h
  omega
theorem digs_start (c : Nat) : digF (c + 1) 1 c [] = digs 1 c := rfl
theorem start_len (c : Nat) : ([] : List Nat).length + c ≤ c := by simp
theorem utf8_small (r : Int) : (Utf8.encode r).size ≤ 4 := by
  unfold Utf8.encode
  dsimp only
  generalize (if Utf8.valid r then r.toNat else Utf8.runeError) = c
  by_cases h1 : c < 0x80
  · rw [if_pos h1]; exact (by decide : 1 ≤ 4)
  · rw [if_neg h1]
    by_cases h2 : c < 0x800
    · rw [if_pos h2]; exact (by decide : 2 ≤ 4)
    · rw [if_neg h2]
      by_cases h3 : c < 0x10000
      · rw [if_pos h3]; exact (by decide : 3 ≤ 4)
      · rw [if_neg h3]; exact (by decide : 4 ≤ 4)
theorem no_over {a b : Nat} (ha : a ≤ 4) (hb : b ≤ 17179869184) (h : 9223372036854775807 < a + b) : False := by omega
theorem size_of {s : ByteArray} {l : List UInt8} (h : s.data.toList = l) : s.size = l.length := by rw [← h]; rfl
theorem not_empty {s : ByteArray} {l : List Nat} (h : s.data.toList = encs l) (hl : l ≠ []) : s.toList.isEmpty = false := by
  rw [Lib.toList_data, h]
  cases l with
  | nil => exact absurd rfl hl
  | cons c t =>
    cases he : encs (c :: t) with
    | nil => exact absurd he (encs_cons_ne c t)
    | cons _ _ => rfl

set_option maxHeartbeats 1000000 in
set_option maxRecDepth 100000 in
theorem coded (c : Nat) (w : World) (hc1 : 1 ≤ c) (hc : c ≤ 2147483647) :
    Calls Tryz.prog 42 #[.int .i64 c] w fun e w' => (∃ s : ByteArray, e = .returned (.string s) ∧ s.data.toList = encs (codedC 1 c)) ∧ w = w' := by
  go_enter Tryz.func42, Tryz.ntmps42
  go_wp2
  go_loop [3, 4] (fun d n => ∃ (D : ByteArray) (ds : List Nat) (k : Nat), d = .string D ∧ n = .int .i64 k ∧ D.data.toList = encs ds ∧ k ≤ c ∧ digF (k + 1) 1 k ds = digs 1 c ∧ (ds = [] → k = c) ∧ ds.length + k ≤ c) (fun _ n => (intOf n).toNat)
  case atStart => exact ⟨_, [], c, rfl, rfl, rfl, Nat.le_refl _, digs_start c, fun _ => rfl, start_len c⟩
  case round =>
    obtain ⟨D, ds, k, rfl, rfl, hD, hk, hdig, hne, hlen⟩ := hrel
    have hsz : D.size ≤ 4 * ds.length := by rw [size_of hD]; exact encs_len_ge ds
    by_cases h0 : 0 < k
    · have HD := Lib.hid hD
      have HG := Lib.hid (hdig.symm.trans (digF_go h0))
      have HS := Lib.hid hsz
      clear hD hdig hne hsz
      go_wp2
      case isTrue => exact (no_over (utf8_small _) (Nat.le_trans HS.out (by omega)) ‹_›).elim
      go_round
      case rel =>
        exact ⟨_, hexDig (k % 16) :: ds, k / 16, rfl, by go_num, by rw [app_list, encs_cons, HD.out]; exact congrArg (· ++ encs ds) (hexTab_enc ⟨k % 16, Nat.mod_lt k (by omega)⟩), by omega, HG.out.symm, fun h => absurd h (by simp), by simp only [List.length_cons]; omega⟩
      case measure => simp [intOf]; omega
    · obtain rfl : k = 0 := by omega
      have hds : ds ≠ [] := fun h => by have := hne h; omega
      have hem := not_empty hD hds
      have hfin : ∀ a b : ByteArray, a.data.toList = [92] → b.data.toList = [32] → (a ++ D ++ b).data.toList = encs (codedC 1 c) := by
        intro a b ha hb
        rw [app_list, app_list, ha, hb, hD]
        unfold codedC
        rw [← hdig, digF_stop hds, encs_cons, encs_append, encs_one, enc_ascii 92 (by omega), enc_ascii 32 (by omega)]
        simp
      have HF := Lib.hid hfin
      clear hD hdig hne hds hfin
      go_wp2
      go_ret
      exact ⟨⟨_, rfl, HF.out _ _ rfl rfl⟩, rfl⟩
end Go.Proofs.YtmgkccnfhkcncaaGreatDoor
