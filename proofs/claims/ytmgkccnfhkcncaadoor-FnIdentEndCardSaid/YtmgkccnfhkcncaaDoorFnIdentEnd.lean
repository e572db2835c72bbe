/-
  FnIdentEnd: where an identifier without escapes begins in a plain text and something stands behind it, RangeOfIdentifier ends where the standard says. No condition.
-/
import Derived.Test.YtmgkccnfhkcncaaDoorImplEnd
import Derived.Test.YtmgkccnfhkcncaaDoorMathF
import Derived.Test.YtmgkccnfhkcncaaDoorMathH
import Derived.Laws.IdiomStrings
import Derived.Lib.SlBytesRow
namespace Go.Proofs.YtmgkccnfhkcncaaDoor.fnIdentEnd
open Go.RowKit

theorem rowBelow (w : World) (X : ByteArray) (cap : Nat) (e : TypeId) : Below w.heap.size w (w.alloc (.cells (bytesRow X cap) e ((bytesRow X cap).size, (bytesRow X cap).size + 1))).drew := by
  have h := (Below.refl w.heap.size w).alloc (Nat.le_refl _) (.cells (bytesRow X cap) e ((bytesRow X cap).size, (bytesRow X cap).size + 1))
  exact ⟨h.os, h.tape, h.output, h.size, h.block⟩
theorem rowCell (w : World) (X : ByteArray) (cap : Nat) (e : TypeId) : ∀ (k : Nat) (hk : k < X.size), (w.alloc (.cells (bytesRow X cap) e ((bytesRow X cap).size, (bytesRow X cap).size + 1))).drew.cell? ⟨w.heap.size, k, none⟩ = some (.int .u8 ((X.data[k]'hk).toNat : Int)) := fun k hk => by
  rw [World.cell?_drew, World.cell?_alloc_mark]
  exact bytesRow_at X cap k hk
/-- The first k bytes hold no backslash. -/
def NoB (X : ByteArray) (k : Nat) : Prop := ∀ d ∈ X.data.toList.take k, d ≠ 92
theorem NoB.snoc {X : ByteArray} {k : Nat} (h : NoB X k) (hk : k < X.size) (h2 : (X.data[k]'hk).toNat ≠ 92) : NoB X (k + 1) := by
  intro d hd
  rw [List.take_succ_eq_append_getElem (by simpa using hk)] at hd
  rcases List.mem_append.1 hd with hd | hd
  · exact h d hd
  · simp at hd
    subst hd
    intro h3
    apply h2
    have := congrArg UInt8.toNat h3
    simpa using this
theorem NoB.all {X : ByteArray} {p : List Nat} (h : NoB X X.size) (hX : X.data.toList = encs p) : ∀ d ∈ p, d ≠ 92 := by
  rintro d hd rfl
  refine h 92 ?_ rfl
  rw [show X.data.toList.take X.size = X.data.toList from List.take_of_length_le (Nat.le_refl _), hX]
  unfold encs
  exact List.mem_flatMap.2 ⟨92, hd, by rw [enc_ascii 92 (by omega)]; exact List.mem_singleton.2 rfl⟩
theorem took {l p : List Nat} (hid : identZ (cpAt l 0) (cpAt l 1) (cpAt l 2) = true) (hp : l = p ++ (nameS l).2.1) : p ≠ [] := by
  rintro rfl
  rw [List.nil_append] at hp
  cases l with
  | nil => exact absurd hid (by decide)
  | cons c t =>
    rw [cpAt_zero_cons, cpAt_succ_cons, cpAt_succ_cons] at hid
    rcases ident_conts hid with h | ⟨rfl, h⟩
    · rw [nameS_conts c t h] at hp
      obtain ⟨q, hq, _⟩ := nameS_split t.length t (Nat.le_refl _)
      have h1 := congrArg List.length hp
      have h2 := congrArg List.length hq
      simp only [List.length_cons, List.length_append] at h1 h2
      omega
    · rw [nameS_esc t h] at hp
      obtain ⟨q, hq, _⟩ := nameS_split (escS t).2.1.length (escS t).2.1 (Nat.le_refl _)
      have h0 := escS_len t
      have h1 := congrArg List.length hp
      have h2 := congrArg List.length hq
      simp only [List.length_cons, List.length_append] at h1 h2
      omega

set_option maxHeartbeats 4000000 in
set_option maxRecDepth 100000 in
theorem walk (a0 a1 : ByteArray) (w : World) (w0 : a0.size ≤ maxLen) (w1 : a1.size ≤ maxLen) (hT : Lib.Utf8Tabs 0 1 w) :
    Calls Tryd.prog 4 #[.string a0, .string a1] w fun e w' => e = .returned (.bool true) ∧ Below w.heap.size w w' := by
  unfold maxLen at w0 w1
  by_cases h1 : a0.size ≤ 2147483647 ∧ a1.size ≤ 2147483647
  · obtain ⟨h0, h1⟩ := h1
    have F := Lib.hid (fun w => lfew (a0 ++ a1) w)
    have hss : (a0 ++ a1).size = a0.size + a1.size := ByteArray.size_append
    rw [hss] at F
    by_cases hf : a0.size + a1.size ≤ 32768
    · rw [decide_eq_true hf] at F
      obtain ⟨b0, hb0⟩ : ∃ b, plainL a0.data.toList = b := ⟨_, rfl⟩
      obtain ⟨b1, hb1⟩ : ∃ b, plainL (120 :: a1.data.toList) = b := ⟨_, rfl⟩
      have I0 := Lib.hid (fun w => isPlain a0 w (by omega))
      rw [hb0] at I0
      have I1 := Lib.hid (fun (t : ByteArray) (w : World) (ht : t.data.toList = 120 :: a1.data.toList) => by
        have h := isPlain t w (by rw [size_of ht, List.length_cons]; have : a1.data.toList.length = a1.size := rfl; omega)
        rw [ht, hb1] at h
        exact h)
      by_cases hbb : b0 = true ∧ b1 = true
      · obtain ⟨rfl, rfl⟩ := hbb
        obtain ⟨l0, hl0, hc0, _⟩ := plainL_cps hb0
        obtain ⟨l, hl, hc⟩ := plainL_x hb1
        have hA : At (a0 ++ a1) a0.size l := by
          refine ⟨?_, by omega, hc, by omega⟩
          rw [app_list, ← hl]
          exact List.drop_left
        have hz : (a0 ++ a1).size ≤ 2147483000 := by omega
        have T := Lib.hid hT
        have A := Lib.hid hA
        have X2 := Lib.hid hss
        clear hT hss hb0 hb1 hl0 hc0 hl hc hA
        cases hid : identZ (cpAt l 0) (cpAt l 1) (cpAt l 2) with
        | false =>
          have E := Lib.hid (fun w => identEndNo (a0 ++ a1) a0.size l w A.out hid)
          clear hid hf hz
          go_enter Tryd.func4, Tryd.ntmps4
          go_wp2_with fail
          refine (F.out _).mono ?_
          rintro e w' ⟨rfl, rfl⟩
          go_wp2_with fail
          refine (I0.out _).mono ?_
          rintro e w' ⟨rfl, rfl⟩
          go_wp2_with fail
          refine (I1.out _ _ (app_list _ _)).mono ?_
          rintro e w' ⟨rfl, rfl⟩
          go_wp2_with fail
          refine (E.out _).mono ?_
          rintro e w1 ⟨rfl, hb⟩
          go_wp2_with fail
          go_ret
          exact ⟨rfl, hb⟩
        | true =>
          obtain ⟨p, hp, hcont⟩ := nameS_split l.length l (Nat.le_refl _)
          have hrest := nameS_rest l.length l (Nat.le_refl _)
          have hpne : p ≠ [] := took hid hp
          have E := Lib.hid (fun w => identEndYes (a0 ++ a1) a0.size l w A.out hid)
          obtain ⟨r, hr⟩ : ∃ r, (nameS l).2.1 = r := ⟨_, rfl⟩
          obtain ⟨op, hop⟩ : ∃ op, (nameS l).2.2 = op := ⟨_, rfl⟩
          rw [hr, hop] at E
          rw [hr] at hp hrest
          have hAsz := A.out.size
          rw [hp, encs_append, List.length_append] at hAsz
          obtain ⟨n, hn⟩ : ∃ n, (encs p).length = n := ⟨_, rfl⟩
          rw [hn] at hAsz
          have HR := Lib.hid hrest
          have HC := Lib.hid hcont
          have HP := Lib.hid hp
          have HN := Lib.hid hn
          have HPN := Lib.hid hpne
          clear hid hrest hcont hp hn hpne hr hop
          cases op with
          | true =>
            rw [Bool.not_true] at E
            go_enter Tryd.func4, Tryd.ntmps4
            go_wp2_with fail
            refine (F.out _).mono ?_
            rintro e w' ⟨rfl, rfl⟩
            go_wp2_with fail
            refine (I0.out _).mono ?_
            rintro e w' ⟨rfl, rfl⟩
            go_wp2_with fail
            refine (I1.out _ _ (app_list _ _)).mono ?_
            rintro e w' ⟨rfl, rfl⟩
            go_wp2_with fail
            refine (E.out _).mono ?_
            rintro e w2 ⟨⟨k', rfl, hA'⟩, hb⟩
            go_wp2_with fail
            go_ret
            exact ⟨rfl, hb⟩
          | false =>
            rw [Bool.not_false] at E
            cases r with
            | nil =>
              have hn1 : n = a1.size := by rw [X2.out] at hAsz; simp [encs] at hAsz; omega
              subst hn1
              go_enter Tryd.func4, Tryd.ntmps4
              go_wp2_with fail
              refine (F.out _).mono ?_
              rintro e w' ⟨rfl, rfl⟩
              go_wp2_with fail
              refine (I0.out _).mono ?_
              rintro e w' ⟨rfl, rfl⟩
              go_wp2_with fail
              refine (I1.out _ _ (app_list _ _)).mono ?_
              rintro e w' ⟨rfl, rfl⟩
              go_wp2_with fail
              refine (E.out _).mono ?_
              rintro e w2 ⟨⟨k', rfl, hA'⟩, hb⟩
              obtain rfl : k' = a0.size + a1.size := by
                have h := hA'.size
                rw [X2.out] at h
                have : (encs []).length = 0 := rfl
                omega
              clear hA' hAsz
              go_wp2_with fail
              go_ret
              exact ⟨rfl, hb⟩
            | cons c u =>
              have hce := HR.out c u rfl
              have hel := encs_cons_len c u
              have hel2 := (enc_len c).1
              rw [X2.out] at hAsz
              have hn1 : n < a1.size := by omega
              have G := Lib.hid (fun w (h : Lib.Utf8Tabs 0 1 w) => implIdentEnd (a0 ++ a1) a0.size w h p c u (by rw [← HP.out]; exact A.out) hz)
              have HCE := Lib.hid hce
              have hss := X2.out
              obtain ⟨X, hX⟩ : ∃ X, (a0 ++ a1).extract a0.size (a0.size + n) = X := ⟨_, rfl⟩
              have hXl : X.data.toList = encs p := by
                rw [← hX, Lib.extract_data, A.out.drop, HP.out, encs_append, ← HN.out]
                rw [show a0.size + (encs p).length - a0.size = (encs p).length by omega]
                exact List.take_left
              have hXs : X.size = n := by rw [size_of hXl, HN.out]
              have XL := Lib.hid hXl
              have XS := Lib.hid hXs
              have XX := Lib.hid hX
              have hcv : ∀ w : World, (convert 9 25 (.string X)).run Tryd.prog w = _ := fun w => run_bytes_of_string (P := Tryd.prog) w 9 25 5 X Tryd.underlying9 Tryd.underlying25 Tryd.underlying5
              clear hce hel hel2 hAsz hXl hXs
              go_enter Tryd.func4, Tryd.ntmps4
              go_wp2_with fail
              refine (F.out _).mono ?_
              rintro e w' ⟨rfl, rfl⟩
              go_wp2_with fail
              refine (I0.out _).mono ?_
              rintro e w' ⟨rfl, rfl⟩
              go_wp2_with fail
              refine (I1.out _ _ (app_list _ _)).mono ?_
              rintro e w' ⟨rfl, rfl⟩
              go_wp2_with fail
              refine (E.out _).mono ?_
              rintro e w2 ⟨⟨k', rfl, hA'⟩, hb⟩
              obtain rfl : k' = a0.size + n := by
                have h := hA'.size
                have h2 := A.out.size
                have h3 : (encs l).length = n + (encs (c :: u)).length := by rw [HP.out, encs_append, List.length_append, HN.out]
                omega
              have HB := Lib.hid hb
              have TT := Lib.hid (Utf8Tabs_below T.out hb)
              clear hA' hb
              have hxs : X.size ≤ 32768 := by rw [XS.out]; omega
              have BW := Lib.hid (rowBelow w2 X (grownCap w2 X.size 0 5) 5)
              have CW := Lib.hid (rowCell w2 X (grownCap w2 X.size 0 5) 5)
              go_wp2_with fail
              clear hcv hX
              obtain ⟨W3, hW3⟩ : ∃ W3, (w2.alloc (.cells (bytesRow X (grownCap w2 X.size 0 5)) 5 ((bytesRow X (grownCap w2 X.size 0 5)).size, (bytesRow X (grownCap w2 X.size 0 5)).size + 1))).drew = W3 := ⟨_, rfl⟩
              rw [hW3] at BW CW ⊢
              clear hW3
              go_loop [61] (fun iv => ∃ k : Nat, iv = .int .i64 (k : Int) ∧ k ≤ X.size ∧ NoB X k) (fun iv => X.size - (intOf iv).toNat)
              case atStart => exact ⟨0, rfl, Nat.zero_le _, by unfold NoB; simp⟩
              case round =>
                obtain ⟨k, rfl, hk, hno⟩ := hrel
                have HNO := Lib.hid hno
                clear hno
                by_cases hkn : k < X.size
                · have hcell := CW.out k hkn
                  obtain ⟨v, hv⟩ : ∃ v : Nat, (X.data[k]'hkn).toNat = v := ⟨_, rfl⟩
                  rw [hv] at hcell
                  have HV := Lib.hid hv
                  clear hv
                  by_cases h92 : v = 92
                  · subst h92
                    go_wp2_with fail
                    go_ret
                    exact ⟨rfl, HB.out.trans (BW.out.mono HB.out.size)⟩
                  · have t1 : ((v : Int) == 92) = false := beq_eq_false_iff_ne.2 (by omega)
                    have N := Lib.hid (HNO.out.snoc hkn (by rw [HV.out]; exact h92))
                    clear h92
                    go_wp2_with fail
                    go_round
                    case rel => exact ⟨k + 1, by go_num, hkn, N.out⟩
                    case measure => simp [intOf]; omega
                · obtain rfl : k = X.size := by omega
                  have hpc := HC.out (HNO.out.all XL.out)
                  have G1 := Lib.hid (G.out _ (Utf8Tabs_below TT.out BW.out) hpc HPN.out HCE.out.1 HCE.out.2)
                  rw [HN.out] at G1
                  clear hpc
                  go_wp2_with fail
                  refine (G1.out).mono ?_
                  rintro e w' ⟨rfl, hb3⟩
                  go_wp2_with fail
                  go_ret
                  refine ⟨?_, (HB.out.trans (BW.out.mono HB.out.size)).trans (hb3.mono (Nat.le_trans HB.out.size BW.out.size))⟩
                  first | rfl | (simp; done) | (congr 1; simp; done)
      · cases b0 with
        | false =>
          have X2 := Lib.hid hss
          clear hss hb0 hb1 hbb hf
          go_enter Tryd.func4, Tryd.ntmps4
          go_wp2_with fail
          refine (F.out _).mono ?_
          rintro e w' ⟨rfl, rfl⟩
          go_wp2_with fail
          refine (I0.out _).mono ?_
          rintro e w' ⟨rfl, rfl⟩
          go_wp2_with fail
          go_ret
          exact ⟨rfl, Below.refl _ _⟩
        | true =>
          obtain rfl : b1 = false := by cases b1 with
            | false => rfl
            | true => exact absurd ⟨rfl, rfl⟩ hbb
          have X2 := Lib.hid hss
          clear hss hb0 hb1 hbb hf
          go_enter Tryd.func4, Tryd.ntmps4
          go_wp2_with fail
          refine (F.out _).mono ?_
          rintro e w' ⟨rfl, rfl⟩
          go_wp2_with fail
          refine (I0.out _).mono ?_
          rintro e w' ⟨rfl, rfl⟩
          go_wp2_with fail
          refine (I1.out _ _ (app_list _ _)).mono ?_
          rintro e w' ⟨rfl, rfl⟩
          go_wp2_with fail
          go_ret
          exact ⟨rfl, Below.refl _ _⟩
    · rw [decide_eq_false hf] at F
      have X := Lib.hid hf
      have X2 := Lib.hid hss
      clear hf hss
      go_enter Tryd.func4, Tryd.ntmps4
      go_wp2_with fail
      refine (F.out _).mono ?_
      rintro e w' ⟨rfl, rfl⟩
      go_wp2_with fail
      go_ret
      exact ⟨rfl, Below.refl _ _⟩
  · go_enter Tryd.func4, Tryd.ntmps4
    by_cases h2 : a0.size ≤ 2147483647
    · have h3 : 2147483648 ≤ a1.size := by omega
      clear h1
      go_wp2
      go_ret
      exact ⟨rfl, Below.refl _ _⟩
    · clear h1
      go_wp2
      go_ret
      exact ⟨rfl, Below.refl _ _⟩
end Go.Proofs.YtmgkccnfhkcncaaDoor.fnIdentEnd
