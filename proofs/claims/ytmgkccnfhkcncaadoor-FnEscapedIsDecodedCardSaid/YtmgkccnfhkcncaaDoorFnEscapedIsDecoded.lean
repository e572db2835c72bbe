/-
  FnEscapedIsDecoded: every plain text of at most 32768 bytes (also one that begins with a byte order mark), each code point of which is written as an escape of so many digits and a blank, is decoded as this text, whatever the list of digits (for all other texts the statement says true). No condition.
-/
import Derived.Test.YtmgkccnfhkcncaaDoorDecoded
import Derived.Test.YtmgkccnfhkcncaaDoorEscaped
import Derived.Test.YtmgkccnfhkcncaaDoorPlain
namespace Go.Proofs.YtmgkccnfhkcncaaDoor.fnEscapedIsDecoded
open Go.RowKit

theorem escapedC_len : ∀ (l : List Nat) (ds : List Int), (∀ c ∈ l, Cp c) → (escapedC l ds).length ≤ 8 * l.length
  | [], _, _ => Nat.le_refl _
  | c :: t, ds, h => by
    have h1 := codedC_len (leastOf ds) c (h c (by simp)) (leastOf_le ds).2
    have h2 := escapedC_len t (ds.drop 1) fun d hd => h d (by simp [hd])
    rw [escapedC_cons, List.length_append, List.length_cons]; omega

set_option maxHeartbeats 2000000 in
set_option maxRecDepth 100000 in
theorem walk (a0 : ByteArray) (a1 : Option Addr) (len1 cap1 : Nat) (z1 : List Int) (w : World) (w0 : a0.size ≤ maxLen) (w1 : IsRow .i64 w a1 len1 cap1 z1) (hT : Lib.Utf8Tabs 0 1 w) :
    Calls Tryd.prog 7 #[.string a0, .slice a1 len1 cap1] w fun e w' => e = .returned (.bool true) ∧ Below w.heap.size w w' := by
  unfold maxLen at w0
  by_cases h1 : a0.size ≤ 2147483647
  · by_cases hl1 : len1 ≤ 2147483647
    · have N := Lib.hid (fun w => lfew a0 w)
      by_cases h2 : a0.size ≤ 32768
      · rw [decide_eq_true h2] at N
        obtain ⟨b, hb⟩ : ∃ b, plainL (120 :: a0.data.toList) = b := ⟨_, rfl⟩
        have I := Lib.hid (fun (t : ByteArray) (w : World) (ht : t.data.toList = 120 :: a0.data.toList) => by
          have h := isPlain t w (by rw [size_of ht, List.length_cons]; have : a0.data.toList.length = a0.size := rfl; omega)
          rw [ht, hb] at h
          exact h)
        cases b
        · clear hb hT w1
          go_enter Tryd.func7, Tryd.ntmps7
          go_wp2_with (go_at_call 13; refine (N.out _).mono ?_; rintro e w' ⟨rfl, rfl⟩)
          refine (I.out _ _ (app_list _ _)).mono ?_
          rintro e w' ⟨rfl, rfl⟩
          go_wp2_with fail
          go_ret
          exact ⟨rfl, Below.refl _ _⟩
        · obtain ⟨l, hd, hl⟩ := plainL_x hb
          have hll : l.length ≤ 32768 := by have := encs_len_le l; rw [← size_of hd] at this; omega
          have e0 : a0 = strOf l := eq_strOf hd
          have A := Lib.hid (specEscaped a0 a1 len1 cap1 z1 w (by omega) w1 l hl hd)
          have z2 := escapedC_len l (z1.take len1) hl
          have y2 := strOf_size (escapedC l (z1.take len1))
          have D := Lib.hid (implDecoded (strOf (escapedC l (z1.take len1))) _ w rfl (escapedC_cp _ _) (by omega) hT)
          rw [decP_escapedC l _ hl, ← e0] at D
          clear z2 y2
          generalize strOf (escapedC l (z1.take len1)) = q at A D
          clear hT w1 hd hl hb hll e0
          go_enter Tryd.func7, Tryd.ntmps7
          go_wp2_with (go_at_call 13; refine (N.out _).mono ?_; rintro e w' ⟨rfl, rfl⟩)
          refine (I.out _ _ (app_list _ _)).mono ?_
          rintro e w' ⟨rfl, rfl⟩
          go_wp2_with fail
          refine (A.out).mono ?_
          rintro e w' ⟨rfl, rfl⟩
          go_wp2_with fail
          refine (D.out).mono ?_
          rintro e w2 ⟨rfl, hb2⟩
          go_wp2_with fail
          go_ret
          exact ⟨rfl, hb2⟩
      · rw [decide_eq_false h2] at N
        have X := Lib.hid h2
        clear h2 w1
        go_enter Tryd.func7, Tryd.ntmps7
        go_wp2_with (go_at_call 13; refine (N.out _).mono ?_; rintro e w' ⟨rfl, rfl⟩)
        go_ret
        exact ⟨rfl, Below.refl _ _⟩
    · have hz : (2147483647 : Int) < (len1 : Int) := by omega
      clear w1
      go_enter Tryd.func7, Tryd.ntmps7
      go_wp2
      go_ret
      exact ⟨rfl, Below.refl _ _⟩
  · clear w1
    go_enter Tryd.func7, Tryd.ntmps7
    go_wp2
    go_ret
    exact ⟨rfl, Below.refl _ _⟩
end Go.Proofs.YtmgkccnfhkcncaaDoor.fnEscapedIsDecoded
