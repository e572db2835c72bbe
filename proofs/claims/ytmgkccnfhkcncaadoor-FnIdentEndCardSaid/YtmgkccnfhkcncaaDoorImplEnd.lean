/-
  impl.IdentEnd.
-/
import Derived.Test.YtmgkccnfhkcncaaDoorRangeEnd
namespace Go.Proofs.YtmgkccnfhkcncaaDoor
open Go.RowKit

set_option maxHeartbeats 1000000 in
set_option maxRecDepth 100000 in
theorem rangeEndV (a b : Nat) (w : World) (h : a + b ≤ 2147483000) :
    Calls Tryd.prog 45 #[.agg #[.int .i32 (a : Int), .int .i32 (b : Int)]] w fun e w' => e = .returned (.int .i32 ((a : Int) + (b : Int))) ∧ Below w.heap.size w w' := by
  go_enter Tryd.func45, Tryd.ntmps45
  go_wp2
  go_ret
  exact ⟨rfl, by first | exact Below.refl _ _ | exact (Below.refl _ _).alloc (Nat.le_refl _) _⟩

set_option maxHeartbeats 2000000 in
set_option maxRecDepth 100000 in
theorem zzIdent (s : ByteArray) (k : Nat) (w : World) (hT : Lib.Utf8Tabs 0 1 w) (a : List Nat) (c : Nat) (u : List Nat) (hA : At s k (a ++ c :: u)) (hz : s.size ≤ 2147483000) (ha : ∀ d ∈ a, conts d = true) (hane : a ≠ []) (hc : conts c = false) (he : ¬ (c = 92 ∧ escOk u = true)) :
    Calls Tryd.prog 30 #[.string s, .int .i64 k] w fun e w' => e = .returned (.int .i64 ((k + (encs a).length : Nat) : Int)) ∧ Below w.heap.size w w' := by
  have hk := hA.le
  have hm : min (k : Int) (s.size : Int) = (k : Int) := by omega
  have hsz := hA.size
  rw [encs_append, List.length_append] at hsz
  have R := Lib.hid (rangeId s k w hT a c u hA hz ha hane hc he)
  obtain ⟨n, hn⟩ : ∃ n, (encs a).length = n := ⟨_, rfl⟩
  rw [hn] at R hsz ⊢
  have hkn : k + n ≤ 2147483000 := by omega
  have E := Lib.hid (fun w => rangeEndV k n w hkn)
  clear hsz hA ha hane hc he hT hn
  unfold srcV at R
  go_enter Tryd.func30, Tryd.ntmps30
  go_wp2_with fail
  refine (R.out).mono ?_
  rintro e w1 ⟨rfl, hb⟩
  have HB := Lib.hid hb
  clear hb
  go_wp2_with fail
  refine (E.out _).mono ?_
  rintro e w2 ⟨rfl, hb2⟩
  go_wp2_with fail
  go_ret
  have h1 := HB.out.size
  have h2 := HB.out.alloc h1 (.cells #[.int .i32 (k : Int), .int .i32 (n : Int)] 60)
  exact ⟨rfl, h2.trans (hb2.mono h2.size)⟩

set_option maxHeartbeats 1000000 in
theorem implIdentEnd (s : ByteArray) (k : Nat) (w : World) (hT : Lib.Utf8Tabs 0 1 w) (a : List Nat) (c : Nat) (u : List Nat) (hA : At s k (a ++ c :: u)) (hz : s.size ≤ 2147483000) (ha : ∀ d ∈ a, conts d = true) (hane : a ≠ []) (hc : conts c = false) (he : ¬ (c = 92 ∧ escOk u = true)) :
    Calls Tryd.prog 15 #[.string s, .int .i64 k] w fun e w' => e = .returned (.int .i64 ((k + (encs a).length : Nat) : Int)) ∧ Below w.heap.size w w' := by
  have R := Lib.hid (zzIdent s k w hT a c u hA hz ha hane hc he)
  clear hA ha hane hc he hT
  go_enter Tryd.func15, Tryd.ntmps15
  go_wp2_with fail
  refine (R.out).mono ?_
  rintro e w1 ⟨rfl, hb⟩
  go_wp2
  go_ret
  exact ⟨rfl, hb⟩
end Go.Proofs.YtmgkccnfhkcncaaDoor
