/-
  Plain Lean, no program: is a name url.
-/
import Derived.Test.YtmgkccnfhkcncaaGreatDoorMathG
namespace Go.Proofs.YtmgkccnfhkcncaaGreatDoor
open Go

/-- One byte of url. -/
def isU (b : UInt8) : Bool := (b.toNat : Int) == 117 || (b.toNat : Int) == 85
def isR (b : UInt8) : Bool := (b.toNat : Int) == 114 || (b.toNat : Int) == 82
def isL (b : UInt8) : Bool := (b.toNat : Int) == 108 || (b.toNat : Int) == 76
def isUrlB (l : List UInt8) : Bool := match l with
  | [u, r, l] => isU u && isR r && isL l
  | _ => false
/-- A list of bytes that are three. -/
theorem three {l : List UInt8} (h : l.length = 3) : ∃ a b c, l = [a, b, c] := by
  match l, h with
  | [a, b, c], _ => exact ⟨a, b, c, rfl⟩

theorem toUInt8_toNat {c : Nat} (h : c < 256) : c.toUInt8.toNat = c := by simp [Nat.toUInt8, UInt8.toNat_ofNat']; omega
theorem ofNat_toNat (b : UInt8) : b.toNat.toUInt8 = b := by simp
theorem isUrl_encs (l : List Nat) (h : ∀ c ∈ l, Cp c) : isUrlB (encs l) = isUrlC l := by
  rw [Bool.eq_iff_iff]
  constructor
  · intro hb
    unfold isUrlB at hb
    split at hb
    · rename_i a b c heq
      simp only [Bool.and_eq_true, isU, isR, isL, Bool.or_eq_true, beq_iff_eq] at hb
      have e1 : encs l = encs [a.toNat, b.toNat, c.toNat] := by
        rw [heq, encs_cons, encs_cons, encs_cons, enc_ascii _ (by omega), enc_ascii _ (by omega), enc_ascii _ (by omega), ofNat_toNat, ofNat_toNat, ofNat_toNat]; rfl
      have hl := encs_inj _ _ h (by intro x hx; simp at hx; unfold Cp; rcases hx with rfl | rfl | rfl <;> omega) e1
      rw [hl]
      unfold isUrlC
      simp only [Bool.and_eq_true, Bool.or_eq_true, beq_iff_eq]
      omega
    · exact absurd hb (by decide)
  · intro hb
    unfold isUrlC at hb
    split at hb
    · rename_i a b c
      simp only [Bool.and_eq_true, Bool.or_eq_true, beq_iff_eq] at hb
      rw [encs_cons, encs_cons, encs_cons, enc_ascii _ (by omega), enc_ascii _ (by omega), enc_ascii _ (by omega)]
      show (isU a.toUInt8 && isR b.toUInt8 && isL c.toUInt8) = true
      unfold isU isR isL
      rw [toUInt8_toNat (by omega), toUInt8_toNat (by omega), toUInt8_toNat (by omega)]
      simp only [Bool.and_eq_true, Bool.or_eq_true, beq_iff_eq]
      omega
    · exact absurd hb (by decide)
end Go.Proofs.YtmgkccnfhkcncaaGreatDoor
