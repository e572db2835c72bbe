/-
  Plain Lean, no program: spec.runeAt by its bytes; bits; what the decoder hands back.
-/
import Derived.Test.YtmgkccnfhkcncaaGreatDoorMathC
import Derived.Shelf.Unicode.DecodeSlow
import Derived.Laws.BitsLemmas
import Derived.Lib.ValidLaws
namespace Go.Proofs.YtmgkccnfhkcncaaGreatDoor
open Go

/-- runeZ, by the bytes that stand at the place (n: how many are left, at least one). -/
def runeN (n b0 b1 b2 b3 : Nat) : Int × Nat :=
  if (Lib.decodeN n b0 b1 b2 b3).1 = 65533 ∧ (Lib.decodeN n b0 b1 b2 b3).2 = 1 then (-2, 1) else (((Lib.decodeN n b0 b1 b2 b3).1 : Int), (Lib.decodeN n b0 b1 b2 b3).2)

theorem runeN_of {n b0 b1 b2 b3 c k : Nat} (h : Lib.decodeN n b0 b1 b2 b3 = (c, k)) (hk : ¬ (c = 65533 ∧ k = 1)) : runeN n b0 b1 b2 b3 = ((c : Int), k) := by
  unfold runeN; rw [h]; dsimp only; rw [if_neg hk]
theorem runeN_bad {n b0 b1 b2 b3 : Nat} (h : Lib.decodeN n b0 b1 b2 b3 = (65533, 1)) : runeN n b0 b1 b2 b3 = (-2, 1) := by
  unfold runeN; rw [h]; rfl

theorem rn_ascii {n b0 b1 b2 b3 : Nat} (h : b0 < 128) : runeN n b0 b1 b2 b3 = ((b0 : Int), 1) :=
  runeN_of (Lib.decodeN_ascii _ _ _ _ _ h) (by omega)
theorem rn_lead {n b0 b1 b2 b3 : Nat} (h : 128 ≤ b0) (h2 : b0 < 194 ∨ 245 ≤ b0) (h3 : b0 < 256) : runeN n b0 b1 b2 b3 = (-2, 1) :=
  runeN_bad (Lib.decodeN_bad _ _ _ _ _ (by omega))
theorem rn_two {n b0 b1 b2 b3 : Nat} (h : 194 ≤ b0) (h2 : b0 < 224) (hn : 1 < n) (h1 : b1 / 64 = 2) : runeN n b0 b1 b2 b3 = (((b0 % 32 * 64 + b1 % 64 : Nat) : Int), 2) := by
  refine runeN_of ?_ (by omega)
  unfold Lib.decodeN
  rw [if_neg (by omega), if_pos ⟨by omega, hn, h1⟩, if_pos (by omega)]
theorem rn_two_bad {n b0 b1 b2 b3 : Nat} (h : 194 ≤ b0) (h2 : b0 < 224) (hn : ¬ (1 < n ∧ b1 / 64 = 2)) : runeN n b0 b1 b2 b3 = (-2, 1) := by
  refine runeN_bad ?_
  unfold Lib.decodeN
  rw [if_neg (by omega), if_neg (by omega), if_neg (by omega), if_neg (by omega)]
theorem rn_three {n b0 b1 b2 b3 : Nat} (h : 224 ≤ b0) (h2 : b0 < 240) (hn : 2 < n) (h1 : b1 / 64 = 2) (h3 : b2 / 64 = 2)
    (hv : ¬ (b0 % 16 * 4096 + b1 % 64 * 64 + b2 % 64 < 2048 ∨ (55296 ≤ b0 % 16 * 4096 + b1 % 64 * 64 + b2 % 64 ∧ b0 % 16 * 4096 + b1 % 64 * 64 + b2 % 64 < 57344))) :
    runeN n b0 b1 b2 b3 = (((b0 % 16 * 4096 + b1 % 64 * 64 + b2 % 64 : Nat) : Int), 3) := by
  refine runeN_of ?_ (by omega)
  unfold Lib.decodeN
  rw [if_neg (by omega), if_neg (by omega), if_pos ⟨by omega, ⟨by omega, h1⟩, hn, h3⟩, if_pos (by omega)]
theorem rn_three_low {n b0 b1 b2 b3 : Nat} (h : 224 ≤ b0) (h2 : b0 < 240) (hn : 2 < n) (h1 : b1 / 64 = 2) (h3 : b2 / 64 = 2)
    (hv : b0 % 16 * 4096 + b1 % 64 * 64 + b2 % 64 < 2048 ∨ (55296 ≤ b0 % 16 * 4096 + b1 % 64 * 64 + b2 % 64 ∧ b0 % 16 * 4096 + b1 % 64 * 64 + b2 % 64 < 57344)) :
    runeN n b0 b1 b2 b3 = (-2, 1) := by
  refine runeN_bad ?_
  unfold Lib.decodeN
  rw [if_neg (by omega), if_neg (by omega), if_pos ⟨by omega, ⟨by omega, h1⟩, hn, h3⟩, if_neg (by omega)]
theorem rn_three_bad {n b0 b1 b2 b3 : Nat} (h : 224 ≤ b0) (h2 : b0 < 240) (hn : ¬ ((1 < n ∧ b1 / 64 = 2) ∧ 2 < n ∧ b2 / 64 = 2)) : runeN n b0 b1 b2 b3 = (-2, 1) := by
  refine runeN_bad ?_
  unfold Lib.decodeN
  rw [if_neg (by omega), if_neg (by omega), if_neg (fun hh => hn hh.2), if_neg (by omega)]
theorem rn_four {n b0 b1 b2 b3 : Nat} (h : 240 ≤ b0) (h2 : b0 < 245) (hn : 3 < n) (h1 : b1 / 64 = 2) (h3 : b2 / 64 = 2) (h4 : b3 / 64 = 2)
    (hv : ¬ (b0 % 8 * 262144 + b1 % 64 * 4096 + b2 % 64 * 64 + b3 % 64 < 65536 ∨ 1114111 < b0 % 8 * 262144 + b1 % 64 * 4096 + b2 % 64 * 64 + b3 % 64)) :
    runeN n b0 b1 b2 b3 = (((b0 % 8 * 262144 + b1 % 64 * 4096 + b2 % 64 * 64 + b3 % 64 : Nat) : Int), 4) := by
  refine runeN_of ?_ (by omega)
  unfold Lib.decodeN
  rw [if_neg (by omega), if_neg (by omega), if_neg (by omega), if_pos ⟨by omega, ⟨by omega, h1⟩, ⟨by omega, h3⟩, hn, h4⟩, if_pos (by omega)]
theorem rn_four_low {n b0 b1 b2 b3 : Nat} (h : 240 ≤ b0) (h2 : b0 < 245) (hn : 3 < n) (h1 : b1 / 64 = 2) (h3 : b2 / 64 = 2) (h4 : b3 / 64 = 2)
    (hv : b0 % 8 * 262144 + b1 % 64 * 4096 + b2 % 64 * 64 + b3 % 64 < 65536 ∨ 1114111 < b0 % 8 * 262144 + b1 % 64 * 4096 + b2 % 64 * 64 + b3 % 64) :
    runeN n b0 b1 b2 b3 = (-2, 1) := by
  refine runeN_bad ?_
  unfold Lib.decodeN
  rw [if_neg (by omega), if_neg (by omega), if_neg (by omega), if_pos ⟨by omega, ⟨by omega, h1⟩, ⟨by omega, h3⟩, hn, h4⟩, if_neg (by omega)]
theorem rn_four_bad {n b0 b1 b2 b3 : Nat} (h : 240 ≤ b0) (h2 : b0 < 245) (hn : ¬ ((1 < n ∧ b1 / 64 = 2) ∧ (2 < n ∧ b2 / 64 = 2) ∧ 3 < n ∧ b3 / 64 = 2)) : runeN n b0 b1 b2 b3 = (-2, 1) := by
  refine runeN_bad ?_
  unfold Lib.decodeN
  rw [if_neg (by omega), if_neg (by omega), if_neg (by omega), if_neg (fun hh => hn hh.2)]

theorem drop_ne (s : ByteArray) (at_ : Nat) (h : at_ < s.size) : s.data.toList.drop at_ ≠ [] := by
  intro e
  have := congrArg List.length e
  rw [List.length_drop] at this
  simp at this
  have : s.size = s.data.size := rfl
  omega

theorem runeZ_N (s : ByteArray) (at_ : Nat) (h : at_ < s.size) :
    runeZ (s.data.toList.drop at_) = runeN (s.size - at_) (s.get! at_).toNat (s.get! (at_ + 1)).toNat (s.get! (at_ + 2)).toNat (s.get! (at_ + 3)).toNat := by
  unfold runeZ runeN
  rw [if_neg (drop_ne s at_ h), Lib.decodeL_drop, Lib.decode_at]
theorem runeZ_end (s : ByteArray) (at_ : Nat) (h : s.size ≤ at_) : runeZ (s.data.toList.drop at_) = (-1, 0) := by
  have : s.data.toList.drop at_ = [] := List.drop_eq_nil_of_le h
  rw [this]; rfl

theorem decodeGo_eq (s : ByteArray) : Lib.decodeGo s = decG s.data.toList := by
  unfold Lib.decodeGo decG
  by_cases h : s.size = 0
  · have : s.data.toList = [] := List.eq_nil_of_length_eq_zero h
    rw [if_pos h, if_pos this]
  · have : s.data.toList ≠ [] := fun e => h (by rw [show s.size = s.data.toList.length from rfl, e]; rfl)
    rw [if_neg h, if_neg this, ← Lib.decodeL_drop, List.drop_zero]

/-! ### bits -/
theorem wraps_i64 (n : Int) (h₀ : 0 ≤ n) (h₁ : n < 2 ^ 63) : IntKind.i64.wrap n = n := by rw [IntKind.wrap_i64]; omega
theorem i64_and63 {x : Int} (h₀ : 0 ≤ x) (h₁ : x < 9223372036854775808) : bits .and .i64 x 63 = x % 64 := bits_mask .i64 63 (by decide) wraps_i64 6 (by decide) x h₀ h₁
theorem i64_and31 {x : Int} (h₀ : 0 ≤ x) (h₁ : x < 9223372036854775808) : bits .and .i64 x 31 = x % 32 := bits_mask .i64 63 (by decide) wraps_i64 5 (by decide) x h₀ h₁
theorem i64_and15 {x : Int} (h₀ : 0 ≤ x) (h₁ : x < 9223372036854775808) : bits .and .i64 x 15 = x % 16 := bits_mask .i64 63 (by decide) wraps_i64 4 (by decide) x h₀ h₁
theorem i64_and7 {x : Int} (h₀ : 0 ≤ x) (h₁ : x < 9223372036854775808) : bits .and .i64 x 7 = x % 8 := bits_mask .i64 63 (by decide) wraps_i64 3 (by decide) x h₀ h₁
theorem i64_or6 {x y : Int} (hx₀ : 0 ≤ x) (hx : x % 64 = 0) (hx₁ : x < 9223372036854775808) (h₀ : 0 ≤ y) (h₁ : y < 64) : bits .or .i64 x y = x + y :=
  bits_join .i64 63 (by decide) wraps_i64 6 x y hx₀ (by simpa using hx) (by simpa using hx₁) h₀ (by simpa using h₁) (by omega)
theorem u8_and192 : ∀ x : Fin 256, bits .and .u8 (x.val : Int) 192 = ((x.val / 64 * 64 : Nat) : Int) := by decide +kernel
theorem and192 (x : Nat) (h : x < 256) : bits .and .u8 (x : Int) 192 = ((x / 64 * 64 : Nat) : Int) := u8_and192 ⟨x, h⟩
end Go.Proofs.YtmgkccnfhkcncaaGreatDoor
