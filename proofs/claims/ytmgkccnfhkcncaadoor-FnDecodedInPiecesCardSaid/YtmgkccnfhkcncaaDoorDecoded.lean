/-
  impl.Decoded at plain strings of at most 2^40 bytes: what the code points mean.
-/
import Derived.Test.YtmgkccnfhkcncaaDoorUnit
import Derived.Test.YtmgkccnfhkcncaaDoorDecode
namespace Go.Proofs.YtmgkccnfhkcncaaDoor
open Go.RowKit

theorem zzDecoded (s : ByteArray) (q : List Nat) (w : World) (hd : s.data.toList = encs q) (hq : ∀ c ∈ q, Cp c) (hs : s.size ≤ 1099511627776) (hT : Lib.Utf8Tabs 0 1 w) :
    Calls Tryd.prog 32 #[.string s] w fun e w' => e = .returned (.string (strOf (decP q))) ∧ Below w.heap.size w w' := by
  have h := decodeIn s w hs hT
  rw [hd, decodeB_encs q hq] at h
  have C : Hid (Calls Tryd.prog 48 #[.string s] w fun e w' => e = .returned (.string (strOf (decP q))) ∧ Below w.heap.size w w') := Lib.hid h
  clear h hT hq hd
  go_enter Tryd.func32, Tryd.ntmps32
  go_wp2_with (go_at_call 48; refine (C.out).mono ?_; rintro e w' ⟨rfl, hb⟩)
  go_ret
  exact ⟨rfl, hb⟩
theorem implDecoded (s : ByteArray) (q : List Nat) (w : World) (hd : s.data.toList = encs q) (hq : ∀ c ∈ q, Cp c) (hs : s.size ≤ 1099511627776) (hT : Lib.Utf8Tabs 0 1 w) :
    Calls Tryd.prog 17 #[.string s] w fun e w' => e = .returned (.string (strOf (decP q))) ∧ Below w.heap.size w w' := by
  have C := Lib.hid (zzDecoded s q w hd hq hs hT)
  clear hT hq hd
  go_enter Tryd.func17, Tryd.ntmps17
  go_wp2_with (go_at_call 32; refine (C.out).mono ?_; rintro e w' ⟨rfl, hb⟩)
  go_ret
  exact ⟨rfl, hb⟩
end Go.Proofs.YtmgkccnfhkcncaaDoor
