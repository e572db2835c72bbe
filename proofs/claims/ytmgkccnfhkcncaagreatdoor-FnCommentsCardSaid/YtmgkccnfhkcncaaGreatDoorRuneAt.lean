/-
  spec.runeAt and spec.IsPlain at every string of at most 2^32 bytes; DecodeRuneInString in this text's words.
-/
import Derived.Test.YtmgkccnfhkcncaaGreatDoorRuneA
import Derived.Test.YtmgkccnfhkcncaaGreatDoorRune4
import Derived.Test.YtmgkccnfhkcncaaGreatDoorShelf
namespace Go.Proofs.YtmgkccnfhkcncaaGreatDoor
open Go.RowKit

theorem ret_two {a b c d : Int} (h : a = c) (h2 : b = d) : Ending.returned (.tuple #[.int .i64 a, .int .i64 b]) = .returned (.tuple #[.int .i64 c, .int .i64 d]) := by rw [h, h2]

theorem get_at (s : ByteArray) (k : Nat) (h : k < s.size) : s.get! k = s[k] := Utf8W.get!_of_lt s k h

set_option maxHeartbeats 400000 in
theorem runeAt_any (s : ByteArray) (k : Nat) (w : World) (hz : s.size ≤ 4294967296) :
    Calls Tryz.prog 39 #[.string s, .int .i64 k] w fun e w' => e = .returned (.tuple #[.int .i64 (runeZ (s.data.toList.drop k)).1, .int .i64 (runeZ (s.data.toList.drop k)).2]) ∧ w = w' := by
  by_cases h : k < s.size
  · obtain ⟨r, hr⟩ : ∃ r, runeZ (s.data.toList.drop k) = r := ⟨_, rfl⟩
    have hN := runeZ_N s k h
    rw [hr] at hN ⊢
    obtain ⟨x0, e0⟩ : ∃ x0, s[k] = x0 := ⟨_, rfl⟩
    have l0 := UInt8.toNat_lt x0
    rw [get_at s k h, e0] at hN
    by_cases a : x0.toNat < 128
    · rw [rn_ascii a] at hN
      subst hN
      exact runeAt_ascii s k w x0 h e0 (by omega)
    by_cases b : x0.toNat < 194 ∨ 245 ≤ x0.toNat
    · rw [rn_lead (by omega) b l0] at hN
      subst hN
      exact runeAt_lead s k w x0 h e0 (by omega) (by omega)
    by_cases c : x0.toNat < 224
    · by_cases h1 : k + 1 < s.size
      · obtain ⟨x1, e1⟩ : ∃ x1, s[k + 1] = x1 := ⟨_, rfl⟩
        rw [get_at s (k + 1) h1, e1] at hN
        by_cases c1 : x1.toNat / 64 = 2
        · rw [rn_two (by omega) c (by omega) c1] at hN
          subst hN
          exact (runeAt_2_ok s k w x0 x1 h1 hz e0 e1 (by omega) (by omega) (by omega)).mono fun _ _ ⟨he, hw⟩ => ⟨he.trans (ret_two (by dsimp only; omega) rfl), hw⟩
        · rw [rn_two_bad (by omega) c (by omega)] at hN
          subst hN
          exact runeAt_2_cont1 s k w x0 x1 h1 hz e0 e1 (by omega) (by omega) (by omega)
      · rw [rn_two_bad (by omega) c (by omega)] at hN
        subst hN
        exact runeAt_2_short1 s k w x0 h hz (by omega) e0 (by omega) (by omega)
    by_cases d : x0.toNat < 240
    · by_cases h1 : k + 1 < s.size
      · obtain ⟨x1, e1⟩ : ∃ x1, s[k + 1] = x1 := ⟨_, rfl⟩
        rw [get_at s (k + 1) h1, e1] at hN
        by_cases c1 : x1.toNat / 64 = 2
        · by_cases h2 : k + 2 < s.size
          · obtain ⟨x2, e2⟩ : ∃ x2, s[k + 2] = x2 := ⟨_, rfl⟩
            rw [get_at s (k + 2) h2, e2] at hN
            by_cases c2 : x2.toNat / 64 = 2
            · by_cases hv : x0.toNat % 16 * 4096 + x1.toNat % 64 * 64 + x2.toNat % 64 < 2048 ∨ (55296 ≤ x0.toNat % 16 * 4096 + x1.toNat % 64 * 64 + x2.toNat % 64 ∧ x0.toNat % 16 * 4096 + x1.toNat % 64 * 64 + x2.toNat % 64 < 57344)
              · rw [rn_three_low (by omega) d (by omega) c1 c2 hv] at hN
                subst hN
                exact runeAt_3_low s k w x0 x1 x2 h2 hz e0 e1 e2 (by omega) (by omega) (by omega) (by omega) (by omega)
              · rw [rn_three (by omega) d (by omega) c1 c2 hv] at hN
                subst hN
                exact (runeAt_3_ok s k w x0 x1 x2 h2 hz e0 e1 e2 (by omega) (by omega) (by omega) (by omega) (by omega)).mono fun _ _ ⟨he, hw⟩ => ⟨he.trans (ret_two (by dsimp only; omega) rfl), hw⟩
            · rw [rn_three_bad (by omega) d (by omega)] at hN
              subst hN
              exact runeAt_3_cont2 s k w x0 x1 x2 h2 hz e0 e1 e2 (by omega) (by omega) (by omega) (by omega)
          · rw [rn_three_bad (by omega) d (by omega)] at hN
            subst hN
            exact runeAt_3_short2 s k w x0 x1 h1 hz (by omega) e0 e1 (by omega) (by omega) (by omega)
        · rw [rn_three_bad (by omega) d (by omega)] at hN
          subst hN
          exact runeAt_3_cont1 s k w x0 x1 h1 hz e0 e1 (by omega) (by omega) (by omega)
      · rw [rn_three_bad (by omega) d (by omega)] at hN
        subst hN
        exact runeAt_3_short1 s k w x0 h hz (by omega) e0 (by omega) (by omega)
    by_cases h1 : k + 1 < s.size
    · obtain ⟨x1, e1⟩ : ∃ x1, s[k + 1] = x1 := ⟨_, rfl⟩
      rw [get_at s (k + 1) h1, e1] at hN
      by_cases c1 : x1.toNat / 64 = 2
      · by_cases h2 : k + 2 < s.size
        · obtain ⟨x2, e2⟩ : ∃ x2, s[k + 2] = x2 := ⟨_, rfl⟩
          rw [get_at s (k + 2) h2, e2] at hN
          by_cases c2 : x2.toNat / 64 = 2
          · by_cases h3 : k + 3 < s.size
            · obtain ⟨x3, e3⟩ : ∃ x3, s[k + 3] = x3 := ⟨_, rfl⟩
              rw [get_at s (k + 3) h3, e3] at hN
              by_cases c3 : x3.toNat / 64 = 2
              · by_cases hv : x0.toNat % 8 * 262144 + x1.toNat % 64 * 4096 + x2.toNat % 64 * 64 + x3.toNat % 64 < 65536 ∨ 1114111 < x0.toNat % 8 * 262144 + x1.toNat % 64 * 4096 + x2.toNat % 64 * 64 + x3.toNat % 64
                · rw [rn_four_low (by omega) (by omega) (by omega) c1 c2 c3 hv] at hN
                  subst hN
                  exact runeAt_4_low s k w x0 x1 x2 x3 h3 hz e0 e1 e2 e3 (by omega) (by omega) (by omega) (by omega) (by omega) (by omega)
                · rw [rn_four (by omega) (by omega) (by omega) c1 c2 c3 hv] at hN
                  subst hN
                  exact (runeAt_4_ok s k w x0 x1 x2 x3 h3 hz e0 e1 e2 e3 (by omega) (by omega) (by omega) (by omega) (by omega) (by omega)).mono fun _ _ ⟨he, hw⟩ => ⟨he.trans (ret_two (by dsimp only; omega) rfl), hw⟩
              · rw [rn_four_bad (by omega) (by omega) (by omega)] at hN
                subst hN
                exact runeAt_4_cont3 s k w x0 x1 x2 x3 h3 hz e0 e1 e2 e3 (by omega) (by omega) (by omega) (by omega) (by omega)
            · rw [rn_four_bad (by omega) (by omega) (by omega)] at hN
              subst hN
              exact runeAt_4_short3 s k w x0 x1 x2 h2 hz (by omega) e0 e1 e2 (by omega) (by omega) (by omega) (by omega)
          · rw [rn_four_bad (by omega) (by omega) (by omega)] at hN
            subst hN
            exact runeAt_4_cont2 s k w x0 x1 x2 h2 hz e0 e1 e2 (by omega) (by omega) (by omega) (by omega)
        · rw [rn_four_bad (by omega) (by omega) (by omega)] at hN
          subst hN
          exact runeAt_4_short2 s k w x0 x1 h1 hz (by omega) e0 e1 (by omega) (by omega) (by omega)
      · rw [rn_four_bad (by omega) (by omega) (by omega)] at hN
        subst hN
        exact runeAt_4_cont1 s k w x0 x1 h1 hz e0 e1 (by omega) (by omega) (by omega)
    · rw [rn_four_bad (by omega) (by omega) (by omega)] at hN
      subst hN
      exact runeAt_4_short1 s k w x0 h hz (by omega) e0 (by omega) (by omega)
  · rw [runeZ_end s k (by omega)]
    exact runeAt_end s k w (by omega)

/-- At a place where code points stand. -/
theorem runeAt_cp (s : ByteArray) (k : Nat) (w : World) (hz : s.size ≤ 4294967296) (c : Nat) (t : List Nat) (hc : Cp c) (hd : s.data.toList.drop k = encs (c :: t)) :
    Calls Tryz.prog 39 #[.string s, .int .i64 k] w fun e w' => e = .returned (.tuple #[.int .i64 (c : Int), .int .i64 ((enc c).length : Nat)]) ∧ w = w' := by
  have h := runeAt_any s k w hz
  rw [hd, runeZ_encs c hc] at h
  exact h
theorem runeAt_stop (s : ByteArray) (k : Nat) (w : World) (hz : s.size ≤ 4294967296) (hd : s.data.toList.drop k = []) :
    Calls Tryz.prog 39 #[.string s, .int .i64 k] w fun e w' => e = .returned (.tuple #[.int .i64 (-1), .int .i64 0]) ∧ w = w' := by
  have h := runeAt_any s k w hz
  rw [hd] at h
  exact h

theorem decodeRune (s : ByteArray) (w : World) (hT : Lib.Utf8Tabs 0 1 w) :
    Calls Tryz.prog 64 #[.string s] w fun e w' => e = .returned (.tuple #[.int .i32 (decG s.data.toList).1, .int .i64 (decG s.data.toList).2]) ∧ Below w.heap.size w w' := by
  have h := Tryz.utf8_DecodeRuneInString s w hT
  rw [decodeGo_eq] at h
  exact h
end Go.Proofs.YtmgkccnfhkcncaaGreatDoor
