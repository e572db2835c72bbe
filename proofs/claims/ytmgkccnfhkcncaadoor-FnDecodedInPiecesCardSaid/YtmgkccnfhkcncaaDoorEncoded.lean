/-
  spec.encoded.
-/
import Derived.Test.YtmgkccnfhkcncaaDoorSpecLex
import Derived.Lib.SlBytesRow
import Derived.Lib.SmallJoins
namespace Go.Proofs.YtmgkccnfhkcncaaDoor
open Go.RowKit

theorem conv_cells (w : World) (c : Nat) (C : List Value) (hC : Lib.runeCells (c : Int) = C) (n : Nat) (hn : C.length = n) :
    (convert 25 9 (.slice (some ⟨w.heap.size, 0, none⟩) n n)).run Tryd.prog (w.alloc (.cells C.toArray 5)) = .ok (.string (strOf [c])) (w.alloc (.cells C.toArray 5)) := by
  have hs : (strOf [c]).size = n := by
    rw [← hn, ← hC]
    show (encs [c]).length = _
    rw [encs_one]; unfold enc Lib.encodeRune Lib.runeCells; simp
  have hb : Lib.Bytes (w.alloc (.cells C.toArray 5)) w.heap.size 0 (strOf [c]) := by
    intro i hi
    rw [Nat.zero_add]
    have e1 : (w.alloc (.cells C.toArray 5)).cell? ⟨w.heap.size, i, none⟩ = C.toArray[i]? := World.cell?_alloc_mark w _ _ _ i
    rw [e1, ← hC]
    have hi' : i < (Lib.encodeRuneZ (c : Int)).length := by
      rw [hs, ← hn, ← hC] at hi
      unfold Lib.runeCells at hi; simpa using hi
    have e2 : (strOf [c])[i].toNat = ((Lib.encodeRuneZ (c : Int))[i]).toNat := by
      have hx := Lib.encodeRuneZ_byte (c : Int) _ (List.getElem_mem hi')
      have : (strOf [c])[i] = ((Lib.encodeRuneZ (c : Int))[i]).toNat.toUInt8 := by
        show (encs [c]).toArray[i] = _
        have : (encs [c]) = (Lib.encodeRuneZ (c : Int)).map fun x => x.toNat.toUInt8 := by rw [encs_one]; rfl
        simp [this]
      rw [this, byte_toNat _ hx.1 hx.2]
    have hx := Lib.encodeRuneZ_byte (c : Int) _ (List.getElem_mem hi')
    rw [e2]
    unfold Lib.runeCells
    simp only [List.getElem?_toArray, List.getElem?_map, List.getElem?_eq_getElem hi', Option.map_some]
    congr 2; omega
  have := Lib.run_convert_whole (P := Tryd.prog) (w.alloc (.cells C.toArray 5)) 25 5 9 Tryd.underlying25 Tryd.underlying5 Tryd.underlying9 w.heap.size 0 (strOf [c]) hb n
  rwa [hs] at this

theorem i64_or5 {x y : Int} (hx₀ : 0 ≤ x) (hx : x % 32 = 0) (hx₁ : x < 9223372036854775808) (h₀ : 0 ≤ y) (h₁ : y < 32) : bits .or .i64 x y = x + y :=
  bits_join .i64 63 (by decide) wraps_i64 5 x y hx₀ (by simpa using hx) (by simpa using hx₁) h₀ (by simpa using h₁) (by omega)
theorem i64_or4 {x y : Int} (hx₀ : 0 ≤ x) (hx : x % 16 = 0) (hx₁ : x < 9223372036854775808) (h₀ : 0 ≤ y) (h₁ : y < 16) : bits .or .i64 x y = x + y :=
  bits_join .i64 63 (by decide) wraps_i64 4 x y hx₀ (by simpa using hx) (by simpa using hx₁) h₀ (by simpa using h₁) (by omega)

set_option maxHeartbeats 2000000 in
set_option maxRecDepth 1000000 in
theorem encoded1 (c : Nat) (w : World) (h : c < 128) :
    Calls Tryd.prog 41 #[.int .i64 c] w fun e w' => e = .returned (.string (strOf [c])) ∧ Below w.heap.size w w' := by
  have CV := conv_cells w c [.int .u8 (c : Int)] (by unfold Lib.runeCells; rw [Lib.encodeRuneZ_one (by omega) (by omega)]; rfl) 1 rfl
  go_enter Tryd.func41, Tryd.ntmps41
  go_wp2
  go_ret
  exact ⟨rfl, (Below.refl _ _).alloc (Nat.le_refl _) _⟩
set_option maxHeartbeats 2000000 in
set_option maxRecDepth 1000000 in
theorem encoded2 (c : Nat) (w : World) (h0 : 128 ≤ c) (h : c < 2048) :
    Calls Tryd.prog 41 #[.int .i64 c] w fun e w' => e = .returned (.string (strOf [c])) ∧ Below w.heap.size w w' := by
  have CV := conv_cells w c [.int .u8 (192 + (c : Int) / 64), .int .u8 (128 + (c : Int) % 64)] (by unfold Lib.runeCells; rw [Lib.encodeRuneZ_two (by omega) (by omega)]; rfl) 2 rfl
  have m1 : bits BinOp.and .i64 (c : Int) 63 = (c : Int) % 64 := i64_and63 (by omega) (by omega)
  have o1 : bits BinOp.or .i64 192 ((c : Int) / 64) = 192 + (c : Int) / 64 := i64_or6 (by omega) (by omega) (by omega) (by omega) (by omega)
  have o2 : bits BinOp.or .i64 128 ((c : Int) % 64) = 128 + (c : Int) % 64 := i64_or6 (by omega) (by omega) (by omega) (by omega) (by omega)
  have r1 : (192 + (c : Int) / 64) % 256 = 192 + (c : Int) / 64 := by omega
  have r2 : (128 + (c : Int) % 64) % 256 = 128 + (c : Int) % 64 := by omega
  go_enter Tryd.func41, Tryd.ntmps41
  go_wp2
  go_ret
  exact ⟨rfl, (Below.refl _ _).alloc (Nat.le_refl _) _⟩
set_option maxHeartbeats 2000000 in
set_option maxRecDepth 1000000 in
theorem encoded3 (c : Nat) (w : World) (h0 : 2048 ≤ c) (h : c ≤ 65535) (hc : c < 55296 ∨ 57343 < c) :
    Calls Tryd.prog 41 #[.int .i64 c] w fun e w' => e = .returned (.string (strOf [c])) ∧ Below w.heap.size w w' := by
  have CV := conv_cells w c [.int .u8 (224 + (c : Int) / 4096), .int .u8 (128 + (c : Int) / 64 % 64), .int .u8 (128 + (c : Int) % 64)] (by unfold Lib.runeCells; rw [Lib.encodeRuneZ_three (by omega)]; rfl) 3 rfl
  have m1 : bits BinOp.and .i64 (c : Int) 63 = (c : Int) % 64 := i64_and63 (by omega) (by omega)
  have m2 : bits BinOp.and .i64 ((c : Int) / 64) 63 = (c : Int) / 64 % 64 := i64_and63 (by omega) (by omega)
  have o1 : bits BinOp.or .i64 224 ((c : Int) / 4096) = 224 + (c : Int) / 4096 := i64_or5 (by omega) (by omega) (by omega) (by omega) (by omega)
  have o2 : bits BinOp.or .i64 128 ((c : Int) / 64 % 64) = 128 + (c : Int) / 64 % 64 := i64_or6 (by omega) (by omega) (by omega) (by omega) (by omega)
  have o3 : bits BinOp.or .i64 128 ((c : Int) % 64) = 128 + (c : Int) % 64 := i64_or6 (by omega) (by omega) (by omega) (by omega) (by omega)
  have r1 : (224 + (c : Int) / 4096) % 256 = 224 + (c : Int) / 4096 := by omega
  have r2 : (128 + (c : Int) / 64 % 64) % 256 = 128 + (c : Int) / 64 % 64 := by omega
  have r3 : (128 + (c : Int) % 64) % 256 = 128 + (c : Int) % 64 := by omega
  clear hc
  go_enter Tryd.func41, Tryd.ntmps41
  go_wp2
  go_ret
  exact ⟨rfl, (Below.refl _ _).alloc (Nat.le_refl _) _⟩
set_option maxHeartbeats 2000000 in
set_option maxRecDepth 1000000 in
theorem encoded4 (c : Nat) (w : World) (h0 : 65536 ≤ c) (h : c ≤ 1114111) :
    Calls Tryd.prog 41 #[.int .i64 c] w fun e w' => e = .returned (.string (strOf [c])) ∧ Below w.heap.size w w' := by
  have CV := conv_cells w c [.int .u8 (240 + (c : Int) / 262144), .int .u8 (128 + (c : Int) / 4096 % 64), .int .u8 (128 + (c : Int) / 64 % 64), .int .u8 (128 + (c : Int) % 64)] (by unfold Lib.runeCells; rw [Lib.encodeRuneZ_four (by omega) (by omega)]; rfl) 4 rfl
  have m1 : bits BinOp.and .i64 (c : Int) 63 = (c : Int) % 64 := i64_and63 (by omega) (by omega)
  have m2 : bits BinOp.and .i64 ((c : Int) / 64) 63 = (c : Int) / 64 % 64 := i64_and63 (by omega) (by omega)
  have m3 : bits BinOp.and .i64 ((c : Int) / 4096) 63 = (c : Int) / 4096 % 64 := i64_and63 (by omega) (by omega)
  have o1 : bits BinOp.or .i64 240 ((c : Int) / 262144) = 240 + (c : Int) / 262144 := i64_or4 (by omega) (by omega) (by omega) (by omega) (by omega)
  have o2 : bits BinOp.or .i64 128 ((c : Int) / 64 % 64) = 128 + (c : Int) / 64 % 64 := i64_or6 (by omega) (by omega) (by omega) (by omega) (by omega)
  have o3 : bits BinOp.or .i64 128 ((c : Int) % 64) = 128 + (c : Int) % 64 := i64_or6 (by omega) (by omega) (by omega) (by omega) (by omega)
  have o4 : bits BinOp.or .i64 128 ((c : Int) / 4096 % 64) = 128 + (c : Int) / 4096 % 64 := i64_or6 (by omega) (by omega) (by omega) (by omega) (by omega)
  have r1 : (240 + (c : Int) / 262144) % 256 = 240 + (c : Int) / 262144 := by omega
  have r2 : (128 + (c : Int) / 64 % 64) % 256 = 128 + (c : Int) / 64 % 64 := by omega
  have r3 : (128 + (c : Int) % 64) % 256 = 128 + (c : Int) % 64 := by omega
  have r4 : (128 + (c : Int) / 4096 % 64) % 256 = 128 + (c : Int) / 4096 % 64 := by omega
  go_enter Tryd.func41, Tryd.ntmps41
  go_wp2
  go_ret
  exact ⟨rfl, (Below.refl _ _).alloc (Nat.le_refl _) _⟩
theorem encodedC (c : Nat) (w : World) (h : Cp c) :
    Calls Tryd.prog 41 #[.int .i64 c] w fun e w' => e = .returned (.string (strOf [c])) ∧ Below w.heap.size w w' := by
  unfold Cp at h
  by_cases h1 : c < 128
  · exact encoded1 c w h1
  by_cases h2 : c < 2048
  · exact encoded2 c w (by omega) h2
  by_cases h3 : c ≤ 65535
  · exact encoded3 c w (by omega) h3 (by omega)
  · exact encoded4 c w (by omega) (by omega)
end Go.Proofs.YtmgkccnfhkcncaaDoor
