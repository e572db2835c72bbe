/-
  FnStringDecoded: every plain text of at most 32768 bytes (also one that begins with a byte order mark), written in quotes of either kind, is decoded as this text, the quotes left out (for all other texts the statement says true). No condition.
-/
import Derived.Test.YtmgkccnfhkcncaaDoorDecoded
import Derived.Test.YtmgkccnfhkcncaaDoorQuoted
import Derived.Test.YtmgkccnfhkcncaaDoorPlain
import Derived.WalkSpells
namespace Go.Proofs.YtmgkccnfhkcncaaDoor.fnStringDecoded
open Go.RowKit

theorem inner_list (q : Nat) (hq : enc q = [q.toUInt8]) (m : List Nat) : ((strOf (q :: (m ++ [q]))).extract 1 ((strOf (q :: (m ++ [q]))).size - 1)).data.toList = encs m := by
  have hs : (strOf (q :: (m ++ [q]))).size = (encs m).length + 2 := by
    show (encs (q :: (m ++ [q]))).length = _
    rw [encs_cons, encs_append, encs_one, hq]; simp
  rw [Lib.extract_data, hs, strOf_list, encs_cons, encs_append, encs_one, hq]
  simp

set_option maxHeartbeats 2000000 in
set_option maxRecDepth 100000 in
theorem walk (a0 : ByteArray) (w : World) (w0 : a0.size ≤ maxLen) (hT : Lib.Utf8Tabs 0 1 w) :
    Calls Tryd.prog 9 #[.string a0] w fun e w' => e = .returned (.bool true) ∧ Below w.heap.size w w' := by
  unfold maxLen at w0
  by_cases h1 : a0.size ≤ 2147483647
  · have N := Lib.hid (fun w => lfew a0 w)
    by_cases h2 : a0.size ≤ 32768
    · rw [decide_eq_true h2] at N
      obtain ⟨b, hb⟩ : ∃ b, plainL (120 :: a0.data.toList) = b := ⟨_, rfl⟩
      have I := Lib.hid (fun (t : ByteArray) (w : World) (ht : t.data.toList = 120 :: a0.data.toList) => by
        have h := isPlain t w (by rw [size_of ht, List.length_cons]; have : a0.data.toList.length = a0.size := rfl; omega)
        rw [ht, hb] at h
        exact h)
      cases b
      · clear hb hT
        go_enter Tryd.func9, Tryd.ntmps9
        go_wp2_with (go_at_call 13; refine (N.out _).mono ?_; rintro e w' ⟨rfl, rfl⟩)
        refine (I.out _ _ (app_list _ _)).mono ?_
        rintro e w' ⟨rfl, rfl⟩
        go_wp2_with fail
        go_ret
        exact ⟨rfl, Below.refl _ _⟩
      · obtain ⟨l, hd, hl⟩ := plainL_x hb
        have hll : l.length ≤ 32768 := by have := encs_len_le l; rw [← size_of hd] at this; omega
        have e0 : a0 = strOf l := eq_strOf hd
        have A := Lib.hid (fun w => quoted34 a0 w (by omega) l hl hd)
        have B := Lib.hid (fun w => quoted39 a0 w (by omega) l hl hd)
        have z1 := quoteC_len 34 l hl
        have z2 := quoteC_len 39 l hl
        have s1 : (strOf (34 :: (quoteC 34 l ++ [34]))).size = (encs (quoteC 34 l)).length + 2 := by
          show (encs (34 :: (quoteC 34 l ++ [34]))).length = _
          rw [encs_cons, encs_append, encs_one, enc_ascii 34 (by omega)]; simp
        have s2 : (strOf (39 :: (quoteC 39 l ++ [39]))).size = (encs (quoteC 39 l)).length + 2 := by
          show (encs (39 :: (quoteC 39 l ++ [39]))).length = _
          rw [encs_cons, encs_append, encs_one, enc_ascii 39 (by omega)]; simp
        have y1 := encs_len_ge (quoteC 34 l)
        have y2 := encs_len_ge (quoteC 39 l)
        have i1 := inner_list 34 (enc_ascii 34 (by omega)) (quoteC 34 l)
        have i2 := inner_list 39 (enc_ascii 39 (by omega)) (quoteC 39 l)
        have D1 := Lib.hid (fun w hT => implDecoded _ _ w i1 (quoteC_cp 34 _ hl) (by rw [size_of i1]; omega) hT)
        have D2 := Lib.hid (fun w hT => implDecoded _ _ w i2 (quoteC_cp 39 _ hl) (by rw [size_of i2]; omega) hT)
        rw [decP_quoteC 34 (.inl rfl) l hl, ← e0] at D1
        rw [decP_quoteC 39 (.inr rfl) l hl, ← e0] at D2
        have r1 : 2 ≤ (strOf (34 :: (quoteC 34 l ++ [34]))).size := by omega
        have r2 : 2 ≤ (strOf (39 :: (quoteC 39 l ++ [39]))).size := by omega
        have r3 : (strOf (34 :: (quoteC 34 l ++ [34]))).size ≤ 2097152 := by omega
        have r4 : (strOf (39 :: (quoteC 39 l ++ [39]))).size ≤ 2097152 := by omega
        clear s1 s2 y1 y2 z1 z2 i1 i2
        generalize strOf (34 :: (quoteC 34 l ++ [34])) = q1 at A D1 r1 r3
        generalize strOf (39 :: (quoteC 39 l ++ [39])) = q2 at B D2 r2 r4
        have T := Lib.hid hT
        clear hT hd hl hb hll e0
        go_enter Tryd.func9, Tryd.ntmps9
        go_wp2_with (go_at_call 13; refine (N.out _).mono ?_; rintro e w' ⟨rfl, rfl⟩)
        refine (I.out _ _ (app_list _ _)).mono ?_
        rintro e w' ⟨rfl, rfl⟩
        go_wp2_with fail
        refine (A.out _).mono ?_
        rintro e w' ⟨rfl, rfl⟩
        go_wp2_with fail
        refine (B.out _).mono ?_
        rintro e w' ⟨rfl, rfl⟩
        go_wp2_with fail
        refine (D1.out _ T.out).mono ?_
        rintro e w1 ⟨rfl, hb1⟩
        go_wp2_with fail
        refine (D2.out _ (Utf8Tabs_below T.out hb1)).mono ?_
        rintro e w2 ⟨rfl, hb2⟩
        go_wp2_with fail
        go_ret
        exact ⟨rfl, hb1.trans (hb2.mono hb1.size)⟩
    · rw [decide_eq_false h2] at N
      have X := Lib.hid h2
      clear h2
      go_enter Tryd.func9, Tryd.ntmps9
      go_wp2_with (go_at_call 13; refine (N.out _).mono ?_; rintro e w' ⟨rfl, rfl⟩)
      go_ret
      exact ⟨rfl, Below.refl _ _⟩
  · go_enter Tryd.func9, Tryd.ntmps9
    go_wp2
    go_ret
    exact ⟨rfl, Below.refl _ _⟩
end Go.Proofs.YtmgkccnfhkcncaaDoor.fnStringDecoded
