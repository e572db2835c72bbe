/-
  spec.runeAt: what it returns, at every string (of at most 2^32 bytes) and every place from 0 on; the world is as it was. spec.runeAt at lead bytes of three bytes: one walk for each way through.
-/
import Derived.Test.YtmgkccnfhkcncaaGreatDoorMA
import Derived.Test.YtmgkccnfhkcncaaGreatDoorChr
import Derived.Handy
namespace Go.Proofs.YtmgkccnfhkcncaaGreatDoor
open Go.RowKit

set_option maxHeartbeats 400000 in
set_option maxRecDepth 100000 in
theorem runeAt_end (s : ByteArray) (k : Nat) (w : World) (h : s.size ≤ k) :
    Calls Tryz.prog 39 #[.string s, .int .i64 k] w fun e w' => e = .returned (.tuple #[.int .i64 (-1), .int .i64 0]) ∧ w = w' := by
  go_enter Tryz.func39, Tryz.ntmps39
  go_wp2
  go_ret2
  exact ⟨rfl, rfl⟩

set_option maxHeartbeats 400000 in
set_option maxRecDepth 100000 in
theorem runeAt_ascii (s : ByteArray) (k : Nat) (w : World) (x0 : UInt8) (h : k < s.size) (e0 : s[k] = x0) (u0 : (x0.toNat : Int) < 128) :
    Calls Tryz.prog 39 #[.string s, .int .i64 k] w fun e w' => e = .returned (.tuple #[.int .i64 (x0.toNat : Int), .int .i64 1]) ∧ w = w' := by
  go_enter Tryz.func39, Tryz.ntmps39
  go_wp2
  go_ret2
  exact ⟨rfl, rfl⟩

set_option maxHeartbeats 400000 in
set_option maxRecDepth 100000 in
theorem runeAt_lead (s : ByteArray) (k : Nat) (w : World) (x0 : UInt8) (h : k < s.size) (e0 : s[k] = x0) (l0 : 128 ≤ (x0.toNat : Int)) (u0 : (x0.toNat : Int) < 194 ∨ 245 ≤ (x0.toNat : Int)) :
    Calls Tryz.prog 39 #[.string s, .int .i64 k] w fun e w' => e = .returned (.tuple #[.int .i64 (-2), .int .i64 1]) ∧ w = w' := by
  have b0 : (x0.toNat : Int) < 256 := by have := UInt8.toNat_lt x0; omega
  rcases u0 with u0 | u0
  all_goals
    go_enter Tryz.func39, Tryz.ntmps39
    go_wp2
    go_ret2
    exact ⟨rfl, rfl⟩

set_option maxHeartbeats 800000 in
set_option maxRecDepth 100000 in
theorem runeAt_2_ok (s : ByteArray) (k : Nat) (w : World) (x0 x1 : UInt8) (h : k + 1 < s.size) (hz : s.size ≤ 4294967296) (e0 : s[k] = x0) (e1 : s[k + 1] = x1) (l0 : 194 ≤ (x0.toNat : Int)) (u0 : (x0.toNat : Int) < 224) (c1 : (x1.toNat : Int) / 64 = 2) :
    Calls Tryz.prog 39 #[.string s, .int .i64 k] w fun e w' => e = .returned (.tuple #[.int .i64 (((x0.toNat : Int) % 32) * 64 + (x1.toNat : Int) % 64), .int .i64 2]) ∧ w = w' := by
  have b0 : (x0.toNat : Int) < 256 := by have := UInt8.toNat_lt x0; omega
  have b1 : (x1.toNat : Int) < 256 := by have := UInt8.toNat_lt x1; omega
  have m0 : bits .and .i64 (x0.toNat : Int) 31 = (x0.toNat : Int) % 32 := i64_and31 (by omega) (by omega)
  have m1 : bits .and .u8 (x1.toNat : Int) 63 = (x1.toNat : Int) % 64 := u8_and63 _ (by omega) (by omega)
  have n1 : bits .and .u8 (x1.toNat : Int) 192 = 128 := by rw [and192 _ (UInt8.toNat_lt x1)]; omega
  have p1 : bits .or .i64 (((x0.toNat : Int) % 32) * 64) ((x1.toNat : Int) % 64) = ((x0.toNat : Int) % 32) * 64 + (x1.toNat : Int) % 64 := i64_or6 (by omega) (by omega) (by omega) (by omega) (by omega)
  have D1 := Lib.hid c1
  clear c1
  all_goals
    go_enter Tryz.func39, Tryz.ntmps39
    go_wp2
    refine wp_loop_rounds 2 ?_
    rw [rounds_succ]
    go_wp2
    rw [rounds_succ]
    go_wp2
    go_ret2
    exact ⟨rfl, rfl⟩

set_option maxHeartbeats 800000 in
set_option maxRecDepth 100000 in
theorem runeAt_2_short1 (s : ByteArray) (k : Nat) (w : World) (x0 : UInt8) (h : k < s.size) (hz : s.size ≤ 4294967296) (hs : s.size ≤ k + 1) (e0 : s[k] = x0) (l0 : 194 ≤ (x0.toNat : Int)) (u0 : (x0.toNat : Int) < 224) :
    Calls Tryz.prog 39 #[.string s, .int .i64 k] w fun e w' => e = .returned (.tuple #[.int .i64 (-2), .int .i64 1]) ∧ w = w' := by
  have b0 : (x0.toNat : Int) < 256 := by have := UInt8.toNat_lt x0; omega
  have m0 : bits .and .i64 (x0.toNat : Int) 31 = (x0.toNat : Int) % 32 := i64_and31 (by omega) (by omega)
  all_goals
    go_enter Tryz.func39, Tryz.ntmps39
    go_wp2
    refine wp_loop_rounds 1 ?_
    rw [rounds_succ]
    go_wp2
    go_ret2
    exact ⟨rfl, rfl⟩

set_option maxHeartbeats 800000 in
set_option maxRecDepth 100000 in
theorem runeAt_2_cont1 (s : ByteArray) (k : Nat) (w : World) (x0 x1 : UInt8) (h : k + 1 < s.size) (hz : s.size ≤ 4294967296) (e0 : s[k] = x0) (e1 : s[k + 1] = x1) (l0 : 194 ≤ (x0.toNat : Int)) (u0 : (x0.toNat : Int) < 224) (c1 : ¬ (x1.toNat : Int) / 64 = 2) :
    Calls Tryz.prog 39 #[.string s, .int .i64 k] w fun e w' => e = .returned (.tuple #[.int .i64 (-2), .int .i64 1]) ∧ w = w' := by
  have b0 : (x0.toNat : Int) < 256 := by have := UInt8.toNat_lt x0; omega
  have b1 : (x1.toNat : Int) < 256 := by have := UInt8.toNat_lt x1; omega
  have m0 : bits .and .i64 (x0.toNat : Int) 31 = (x0.toNat : Int) % 32 := i64_and31 (by omega) (by omega)
  have q1 : bits .and .u8 (x1.toNat : Int) 192 = (x1.toNat : Int) / 64 * 64 := by rw [and192 _ (UInt8.toNat_lt x1)]; omega
  rcases (by omega : (x1.toNat : Int) < 128 ∨ 192 ≤ (x1.toNat : Int)) with c | c
  all_goals
    have nq : (((x1.toNat : Int) / 64 * 64) != 128) = true := by rw [bne_iff_ne]; omega
    clear c1
    go_enter Tryz.func39, Tryz.ntmps39
    go_wp2
    refine wp_loop_rounds 1 ?_
    rw [rounds_succ]
    go_wp2
    go_ret2
    exact ⟨rfl, rfl⟩
end Go.Proofs.YtmgkccnfhkcncaaGreatDoor

namespace Go.Proofs.YtmgkccnfhkcncaaGreatDoor
open Go.RowKit

set_option maxHeartbeats 800000 in
set_option maxRecDepth 100000 in
theorem runeAt_3_ok (s : ByteArray) (k : Nat) (w : World) (x0 x1 x2 : UInt8) (h : k + 2 < s.size) (hz : s.size ≤ 4294967296) (e0 : s[k] = x0) (e1 : s[k + 1] = x1) (e2 : s[k + 2] = x2) (l0 : 224 ≤ (x0.toNat : Int)) (u0 : (x0.toNat : Int) < 240) (c1 : (x1.toNat : Int) / 64 = 2) (c2 : (x2.toNat : Int) / 64 = 2) (hv : 2048 ≤ (((x0.toNat : Int) % 16) * 64 + (x1.toNat : Int) % 64) * 64 + (x2.toNat : Int) % 64 ∧ ((((x0.toNat : Int) % 16) * 64 + (x1.toNat : Int) % 64) * 64 + (x2.toNat : Int) % 64 < 55296 ∨ 57344 ≤ (((x0.toNat : Int) % 16) * 64 + (x1.toNat : Int) % 64) * 64 + (x2.toNat : Int) % 64)) :
    Calls Tryz.prog 39 #[.string s, .int .i64 k] w fun e w' => e = .returned (.tuple #[.int .i64 ((((x0.toNat : Int) % 16) * 64 + (x1.toNat : Int) % 64) * 64 + (x2.toNat : Int) % 64), .int .i64 3]) ∧ w = w' := by
  have b0 : (x0.toNat : Int) < 256 := by have := UInt8.toNat_lt x0; omega
  have b1 : (x1.toNat : Int) < 256 := by have := UInt8.toNat_lt x1; omega
  have b2 : (x2.toNat : Int) < 256 := by have := UInt8.toNat_lt x2; omega
  have m0 : bits .and .i64 (x0.toNat : Int) 15 = (x0.toNat : Int) % 16 := i64_and15 (by omega) (by omega)
  have m1 : bits .and .u8 (x1.toNat : Int) 63 = (x1.toNat : Int) % 64 := u8_and63 _ (by omega) (by omega)
  have n1 : bits .and .u8 (x1.toNat : Int) 192 = 128 := by rw [and192 _ (UInt8.toNat_lt x1)]; omega
  have p1 : bits .or .i64 (((x0.toNat : Int) % 16) * 64) ((x1.toNat : Int) % 64) = ((x0.toNat : Int) % 16) * 64 + (x1.toNat : Int) % 64 := i64_or6 (by omega) (by omega) (by omega) (by omega) (by omega)
  have D1 := Lib.hid c1
  clear c1
  have m2 : bits .and .u8 (x2.toNat : Int) 63 = (x2.toNat : Int) % 64 := u8_and63 _ (by omega) (by omega)
  have n2 : bits .and .u8 (x2.toNat : Int) 192 = 128 := by rw [and192 _ (UInt8.toNat_lt x2)]; omega
  have p2 : bits .or .i64 ((((x0.toNat : Int) % 16) * 64 + (x1.toNat : Int) % 64) * 64) ((x2.toNat : Int) % 64) = (((x0.toNat : Int) % 16) * 64 + (x1.toNat : Int) % 64) * 64 + (x2.toNat : Int) % 64 := i64_or6 (by omega) (by omega) (by omega) (by omega) (by omega)
  have D2 := Lib.hid c2
  clear c2
  have V := Lib.hid hv
  clear hv
  all_goals
    go_enter Tryz.func39, Tryz.ntmps39
    go_wp2
    refine wp_loop_rounds 3 ?_
    rw [rounds_succ]
    go_wp2
    rw [rounds_succ]
    go_wp2
    rw [rounds_succ]
    go_wp2
    all_goals
      have hv := V.out
      first | (exfalso; omega) | (go_ret2; exact ⟨rfl, rfl⟩)

set_option maxHeartbeats 800000 in
set_option maxRecDepth 100000 in
theorem runeAt_3_low (s : ByteArray) (k : Nat) (w : World) (x0 x1 x2 : UInt8) (h : k + 2 < s.size) (hz : s.size ≤ 4294967296) (e0 : s[k] = x0) (e1 : s[k + 1] = x1) (e2 : s[k + 2] = x2) (l0 : 224 ≤ (x0.toNat : Int)) (u0 : (x0.toNat : Int) < 240) (c1 : (x1.toNat : Int) / 64 = 2) (c2 : (x2.toNat : Int) / 64 = 2) (hv : (((x0.toNat : Int) % 16) * 64 + (x1.toNat : Int) % 64) * 64 + (x2.toNat : Int) % 64 < 2048 ∨ (55296 ≤ (((x0.toNat : Int) % 16) * 64 + (x1.toNat : Int) % 64) * 64 + (x2.toNat : Int) % 64 ∧ (((x0.toNat : Int) % 16) * 64 + (x1.toNat : Int) % 64) * 64 + (x2.toNat : Int) % 64 < 57344)) :
    Calls Tryz.prog 39 #[.string s, .int .i64 k] w fun e w' => e = .returned (.tuple #[.int .i64 (-2), .int .i64 1]) ∧ w = w' := by
  have b0 : (x0.toNat : Int) < 256 := by have := UInt8.toNat_lt x0; omega
  have b1 : (x1.toNat : Int) < 256 := by have := UInt8.toNat_lt x1; omega
  have b2 : (x2.toNat : Int) < 256 := by have := UInt8.toNat_lt x2; omega
  have m0 : bits .and .i64 (x0.toNat : Int) 15 = (x0.toNat : Int) % 16 := i64_and15 (by omega) (by omega)
  have m1 : bits .and .u8 (x1.toNat : Int) 63 = (x1.toNat : Int) % 64 := u8_and63 _ (by omega) (by omega)
  have n1 : bits .and .u8 (x1.toNat : Int) 192 = 128 := by rw [and192 _ (UInt8.toNat_lt x1)]; omega
  have p1 : bits .or .i64 (((x0.toNat : Int) % 16) * 64) ((x1.toNat : Int) % 64) = ((x0.toNat : Int) % 16) * 64 + (x1.toNat : Int) % 64 := i64_or6 (by omega) (by omega) (by omega) (by omega) (by omega)
  have D1 := Lib.hid c1
  clear c1
  have m2 : bits .and .u8 (x2.toNat : Int) 63 = (x2.toNat : Int) % 64 := u8_and63 _ (by omega) (by omega)
  have n2 : bits .and .u8 (x2.toNat : Int) 192 = 128 := by rw [and192 _ (UInt8.toNat_lt x2)]; omega
  have p2 : bits .or .i64 ((((x0.toNat : Int) % 16) * 64 + (x1.toNat : Int) % 64) * 64) ((x2.toNat : Int) % 64) = (((x0.toNat : Int) % 16) * 64 + (x1.toNat : Int) % 64) * 64 + (x2.toNat : Int) % 64 := i64_or6 (by omega) (by omega) (by omega) (by omega) (by omega)
  have D2 := Lib.hid c2
  clear c2
  have V := Lib.hid hv
  clear hv
  all_goals
    go_enter Tryz.func39, Tryz.ntmps39
    go_wp2
    refine wp_loop_rounds 3 ?_
    rw [rounds_succ]
    go_wp2
    rw [rounds_succ]
    go_wp2
    rw [rounds_succ]
    go_wp2
    all_goals
      have hv := V.out
      first | (exfalso; omega) | (go_ret2; exact ⟨rfl, rfl⟩)

set_option maxHeartbeats 800000 in
set_option maxRecDepth 100000 in
theorem runeAt_3_short1 (s : ByteArray) (k : Nat) (w : World) (x0 : UInt8) (h : k < s.size) (hz : s.size ≤ 4294967296) (hs : s.size ≤ k + 1) (e0 : s[k] = x0) (l0 : 224 ≤ (x0.toNat : Int)) (u0 : (x0.toNat : Int) < 240) :
    Calls Tryz.prog 39 #[.string s, .int .i64 k] w fun e w' => e = .returned (.tuple #[.int .i64 (-2), .int .i64 1]) ∧ w = w' := by
  have b0 : (x0.toNat : Int) < 256 := by have := UInt8.toNat_lt x0; omega
  have m0 : bits .and .i64 (x0.toNat : Int) 15 = (x0.toNat : Int) % 16 := i64_and15 (by omega) (by omega)
  all_goals
    go_enter Tryz.func39, Tryz.ntmps39
    go_wp2
    refine wp_loop_rounds 1 ?_
    rw [rounds_succ]
    go_wp2
    go_ret2
    exact ⟨rfl, rfl⟩

set_option maxHeartbeats 800000 in
set_option maxRecDepth 100000 in
theorem runeAt_3_cont1 (s : ByteArray) (k : Nat) (w : World) (x0 x1 : UInt8) (h : k + 1 < s.size) (hz : s.size ≤ 4294967296) (e0 : s[k] = x0) (e1 : s[k + 1] = x1) (l0 : 224 ≤ (x0.toNat : Int)) (u0 : (x0.toNat : Int) < 240) (c1 : ¬ (x1.toNat : Int) / 64 = 2) :
    Calls Tryz.prog 39 #[.string s, .int .i64 k] w fun e w' => e = .returned (.tuple #[.int .i64 (-2), .int .i64 1]) ∧ w = w' := by
  have b0 : (x0.toNat : Int) < 256 := by have := UInt8.toNat_lt x0; omega
  have b1 : (x1.toNat : Int) < 256 := by have := UInt8.toNat_lt x1; omega
  have m0 : bits .and .i64 (x0.toNat : Int) 15 = (x0.toNat : Int) % 16 := i64_and15 (by omega) (by omega)
  have q1 : bits .and .u8 (x1.toNat : Int) 192 = (x1.toNat : Int) / 64 * 64 := by rw [and192 _ (UInt8.toNat_lt x1)]; omega
  rcases (by omega : (x1.toNat : Int) < 128 ∨ 192 ≤ (x1.toNat : Int)) with c | c
  all_goals
    have nq : (((x1.toNat : Int) / 64 * 64) != 128) = true := by rw [bne_iff_ne]; omega
    clear c1
    go_enter Tryz.func39, Tryz.ntmps39
    go_wp2
    refine wp_loop_rounds 1 ?_
    rw [rounds_succ]
    go_wp2
    go_ret2
    exact ⟨rfl, rfl⟩

set_option maxHeartbeats 800000 in
set_option maxRecDepth 100000 in
theorem runeAt_3_short2 (s : ByteArray) (k : Nat) (w : World) (x0 x1 : UInt8) (h : k + 1 < s.size) (hz : s.size ≤ 4294967296) (hs : s.size ≤ k + 2) (e0 : s[k] = x0) (e1 : s[k + 1] = x1) (l0 : 224 ≤ (x0.toNat : Int)) (u0 : (x0.toNat : Int) < 240) (c1 : (x1.toNat : Int) / 64 = 2) :
    Calls Tryz.prog 39 #[.string s, .int .i64 k] w fun e w' => e = .returned (.tuple #[.int .i64 (-2), .int .i64 1]) ∧ w = w' := by
  have b0 : (x0.toNat : Int) < 256 := by have := UInt8.toNat_lt x0; omega
  have b1 : (x1.toNat : Int) < 256 := by have := UInt8.toNat_lt x1; omega
  have m0 : bits .and .i64 (x0.toNat : Int) 15 = (x0.toNat : Int) % 16 := i64_and15 (by omega) (by omega)
  have m1 : bits .and .u8 (x1.toNat : Int) 63 = (x1.toNat : Int) % 64 := u8_and63 _ (by omega) (by omega)
  have n1 : bits .and .u8 (x1.toNat : Int) 192 = 128 := by rw [and192 _ (UInt8.toNat_lt x1)]; omega
  have p1 : bits .or .i64 (((x0.toNat : Int) % 16) * 64) ((x1.toNat : Int) % 64) = ((x0.toNat : Int) % 16) * 64 + (x1.toNat : Int) % 64 := i64_or6 (by omega) (by omega) (by omega) (by omega) (by omega)
  have D1 := Lib.hid c1
  clear c1
  all_goals
    go_enter Tryz.func39, Tryz.ntmps39
    go_wp2
    refine wp_loop_rounds 2 ?_
    rw [rounds_succ]
    go_wp2
    rw [rounds_succ]
    go_wp2
    go_ret2
    exact ⟨rfl, rfl⟩

set_option maxHeartbeats 800000 in
set_option maxRecDepth 100000 in
theorem runeAt_3_cont2 (s : ByteArray) (k : Nat) (w : World) (x0 x1 x2 : UInt8) (h : k + 2 < s.size) (hz : s.size ≤ 4294967296) (e0 : s[k] = x0) (e1 : s[k + 1] = x1) (e2 : s[k + 2] = x2) (l0 : 224 ≤ (x0.toNat : Int)) (u0 : (x0.toNat : Int) < 240) (c1 : (x1.toNat : Int) / 64 = 2) (c2 : ¬ (x2.toNat : Int) / 64 = 2) :
    Calls Tryz.prog 39 #[.string s, .int .i64 k] w fun e w' => e = .returned (.tuple #[.int .i64 (-2), .int .i64 1]) ∧ w = w' := by
  have b0 : (x0.toNat : Int) < 256 := by have := UInt8.toNat_lt x0; omega
  have b1 : (x1.toNat : Int) < 256 := by have := UInt8.toNat_lt x1; omega
  have b2 : (x2.toNat : Int) < 256 := by have := UInt8.toNat_lt x2; omega
  have m0 : bits .and .i64 (x0.toNat : Int) 15 = (x0.toNat : Int) % 16 := i64_and15 (by omega) (by omega)
  have m1 : bits .and .u8 (x1.toNat : Int) 63 = (x1.toNat : Int) % 64 := u8_and63 _ (by omega) (by omega)
  have n1 : bits .and .u8 (x1.toNat : Int) 192 = 128 := by rw [and192 _ (UInt8.toNat_lt x1)]; omega
  have p1 : bits .or .i64 (((x0.toNat : Int) % 16) * 64) ((x1.toNat : Int) % 64) = ((x0.toNat : Int) % 16) * 64 + (x1.toNat : Int) % 64 := i64_or6 (by omega) (by omega) (by omega) (by omega) (by omega)
  have D1 := Lib.hid c1
  clear c1
  have q2 : bits .and .u8 (x2.toNat : Int) 192 = (x2.toNat : Int) / 64 * 64 := by rw [and192 _ (UInt8.toNat_lt x2)]; omega
  rcases (by omega : (x2.toNat : Int) < 128 ∨ 192 ≤ (x2.toNat : Int)) with c | c
  all_goals
    have nq : (((x2.toNat : Int) / 64 * 64) != 128) = true := by rw [bne_iff_ne]; omega
    clear c2
    go_enter Tryz.func39, Tryz.ntmps39
    go_wp2
    refine wp_loop_rounds 2 ?_
    rw [rounds_succ]
    go_wp2
    rw [rounds_succ]
    go_wp2
    go_ret2
    exact ⟨rfl, rfl⟩
end Go.Proofs.YtmgkccnfhkcncaaGreatDoor
