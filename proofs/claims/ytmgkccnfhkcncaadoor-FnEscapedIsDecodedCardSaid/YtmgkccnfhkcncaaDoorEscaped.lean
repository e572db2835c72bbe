/-
  spec.Escaped: what it writes of a plain text, whatever the list of digits; the world is as it was.
-/
import Derived.Test.YtmgkccnfhkcncaaDoorUnit
import Derived.Deep.QuietTactic
import Derived.BigQuiet
import Derived.Deep.DeepCutAuto
import Derived.Deep.CutBlock
namespace Go.Proofs.YtmgkccnfhkcncaaDoor
open Go.RowKit

/-- What the walk is told of a slice of integers that came in: it is nil; or it leads to a row of 'cap' cells. -/
def IsRow (k : IntKind) (w : World) (a : Option Addr) (len cap : Nat) (zs : List Int) : Prop :=
  (a = none ∧ len = 0 ∧ cap = 0 ∧ zs = []) ∨
  ∃ x, a = some x ∧ len ≤ cap ∧ cap ≤ maxLen ∧ zs.length = cap ∧ (∀ i, i < zs.length → w.cell? (x.add i) = some (.int k (zs.getD i 0))) ∧ ∀ n ∈ zs, (Lit.int k n).wf = true

theorem hexTab_cut : ∀ j : Fin 16, ((({ data := #[48, 49, 50, 51, 52, 53, 54, 55, 56, 57, 97, 98, 99, 100, 101, 102] } : ByteArray).extract j.val (j.val + 1))).data.toList = enc (hexDig j.val) := by decide +kernel
theorem hexDig_enc1 : ∀ j : Fin 16, (enc (hexDig j.val)).length = 1 := by decide +kernel
theorem digF_next {least k : Nat} {ds : List Nat} (h : 0 < k ∨ ds.length < least) : digF (k + least) least k ds = digF (k / 16 + least) least (k / 16) (hexDig (k % 16) :: ds) := by
  obtain ⟨n, hn⟩ : ∃ n, k + least = n + 1 := ⟨k + least - 1, by omega⟩
  rw [hn]
  conv => lhs; unfold digF
  rw [if_pos h]
  exact digF_more _ _ _ _ _ (by simp only [List.length_cons]; omega) (by simp only [List.length_cons]; omega)
theorem digF_done {least : Nat} {ds : List Nat} (h : ¬ ds.length < least) : digF (0 + least) least 0 ds = ds := by
  cases least with
  | zero => rfl
  | succ n =>
    show digF (0 + n + 1) (n + 1) 0 ds = ds
    unfold digF
    rw [if_neg (by omega)]
theorem app_size (a b : ByteArray) : (a ++ b).size = a.size + b.size := by
  show (a ++ b).data.toList.length = _
  rw [app_list, List.length_append]; rfl
def eSize : Value → Nat
  | .string t => t.size
  | _ => 0
/-- What the loop over digits carries. -/
def EscRel (least c : Nat) (cv dv : Value) : Prop :=
  ∃ (D : ByteArray) (ds : List Nat) (k : Nat), cv = .int .i64 (k : Int) ∧ dv = .string D ∧ D.data.toList = encs ds ∧ D.size = ds.length ∧ k ≤ c ∧ ds.length + k ≤ c + 7 ∧ (0 < k ∨ ds.length ≤ least ∨ 0 < c) ∧ digF (k + least) least k ds = digs least c
theorem escRel_start (least c : Nat) : digF (c + least) least c [] = digs least c := rfl

theorem escapedC_cons (c : Nat) (t : List Nat) (ds : List Int) : escapedC (c :: t) ds = codedC (leastOf ds) c ++ escapedC t (ds.drop 1) := rfl
theorem leastOf_yes {zs : List Int} {len i : Nat} {v : Int} (hi : i < len) (hv : zs[i]? = some v) (h : 1 < v ∧ v < 7) : leastOf ((zs.take len).drop i) = v.toNat := by
  have : ∃ t, (zs.take len).drop i = v :: t := by
    refine ⟨(zs.take len).drop (i + 1), ?_⟩
    have h2 : (zs.take len)[i]? = some v := by rw [List.getElem?_take, if_pos hi, hv]
    obtain ⟨h3, h4⟩ := List.getElem?_eq_some_iff.1 h2
    rw [List.drop_eq_getElem_cons h3, h4]
  obtain ⟨t, ht⟩ := this
  rw [ht]; unfold leastOf; dsimp only; rw [if_pos h]
theorem leastOf_no {zs : List Int} {len i : Nat} {v : Int} (hi : i < len) (hv : zs[i]? = some v) (h : ¬ (1 < v ∧ v < 7)) : leastOf ((zs.take len).drop i) = 1 := by
  have : ∃ t, (zs.take len).drop i = v :: t := by
    refine ⟨(zs.take len).drop (i + 1), ?_⟩
    have h2 : (zs.take len)[i]? = some v := by rw [List.getElem?_take, if_pos hi, hv]
    obtain ⟨h3, h4⟩ := List.getElem?_eq_some_iff.1 h2
    rw [List.drop_eq_getElem_cons h3, h4]
  obtain ⟨t, ht⟩ := this
  rw [ht]; unfold leastOf; dsimp only; rw [if_neg h]
theorem leastOf_end {zs : List Int} {len i : Nat} (hi : len ≤ i) : leastOf ((zs.take len).drop i) = 1 := by
  rw [List.drop_eq_nil_of_le (by rw [List.length_take]; omega)]; rfl

/-- How many digits are asked at index i. -/
def EscCase (w : World) (a : Option Addr) (_zs : List Int) (len i L : Nat) (B : Bool) : Prop :=
  (B = true ∧ ∃ b off v, i < len ∧ a = some ⟨b, off, none⟩ ∧ w.cell? ⟨b, off + i, none⟩ = some (.int .i64 v) ∧ v = (L : Int)) ∨ (B = false ∧ L = 1)

set_option maxHeartbeats 4000000 in
set_option maxRecDepth 100000 in
theorem specEscaped (s : ByteArray) (a : Option Addr) (len cap : Nat) (zs : List Int) (w : World) (hz : s.size ≤ 4294967296) (hr : IsRow .i64 w a len cap zs) (l : List Nat) (hl : ∀ c ∈ l, Cp c) (hd : s.data.toList = encs l) :
    Calls Tryd.prog 18 #[.string s, .slice a len cap] w fun e w' => e = .returned (.string (strOf (escapedC l (zs.take len)))) ∧ w' = w := by
  have R := Lib.hid (fun k w c t hc hd => runeAt_cp s k w hz c t hc hd)
  have START := Lib.hid (show WRel s (fun r => escapedC r ((zs.take len).drop 0)) (encs (escapedC l (zs.take len))) ⟨#[]⟩ 0 l from ⟨hd, hl, rfl, Nat.zero_le _⟩)
  -- what stands at index i
  have hcell : ∀ i, i < len → ∃ b off v, a = some ⟨b, off, none⟩ ∧ w.cell? ⟨b, off + i, none⟩ = some (.int .i64 v) ∧ zs[i]? = some v := by
    intro i hi
    rcases hr with ⟨_, h0, _⟩ | ⟨x, hx, h1, _, h3, h4, _⟩
    · omega
    · obtain ⟨b, off, spot⟩ := x
      have hc0 := h4 0 (by omega)
      have hspot : spot = none := by simpa [Addr.add] using World.cell?_spot hc0
      subst hspot
      have hc := h4 i (by omega)
      have hadd : (⟨b, off, none⟩ : Addr).add i = ⟨b, off + i, none⟩ := by
        by_cases hi0 : i = 0
        · simp [Addr.add, hi0]
        · simp [Addr.add, hi0]
      rw [hadd] at hc
      refine ⟨b, off, zs.getD i 0, hx, hc, ?_⟩
      rw [List.getD_eq_getElem?_getD, List.getElem?_eq_getElem (by omega)]; rfl
  have HC := Lib.hid hcell
  clear hd hl hcell hr
  go_enter Tryd.func18, Tryd.ntmps18
  go_wp2
  go_loop [5, 6, 7] (fun o at_ ix => ∃ (O : ByteArray) (k i : Nat) (rest : List Nat), o = .string O ∧ at_ = .int .i64 k ∧ ix = .int .i64 i ∧ k ≤ s.size ∧ i ≤ k ∧ WRel s (fun r => escapedC r ((zs.take len).drop i)) (encs (escapedC l (zs.take len))) O k rest) (fun _ at_ _ => s.size - (intOf at_).toNat)
  case atStart => exact ⟨_, 0, 0, l, rfl, rfl, rfl, Nat.zero_le _, Nat.le_refl _, START.out⟩
  case round =>
    obtain ⟨O, k, i, rest, rfl, rfl, rfl, hk, hik, hW⟩ := hrel
    have hO : O.size ≤ 40 * k + 40 := hW.2.2.2
    cases rest with
    | nil =>
      have hks := rest_nil s k hW.1
      have hfin : O.data.toList ++ encs (escapedC [] ((zs.take len).drop i)) = _ := hW.2.2.1
      rw [show escapedC [] ((zs.take len).drop i) = [] from rfl, encs_nil, List.append_nil] at hfin
      have F := Lib.hid (eq_strOf hfin)
      clear hfin hW
      go_wp2
      go_ret
      exact ⟨by rw [← F.out]; rfl, rfl⟩
    | cons c t =>
      have hc := hW.2.1 c (by simp)
      have hcl : 1 ≤ c := hc.1
      have hcu : c ≤ 1114111 := by unfold Cp at hc; omega
      have hkn := next_le s k c t hk hW.1
      have hn := enc_len c
      have cR := R.out k w c t hc hW.1
      obtain ⟨n, hne⟩ : ∃ n, (enc c).length = n := ⟨_, rfl⟩
      have STEP := Lib.hid (fun x hx hl p hp => wrel_step (F' := fun r => escapedC r ((zs.take len).drop (i + 1))) hW (x := x) hx hl (p := p) hp)
      rw [hne] at cR hkn hn STEP
      have CR := Lib.hid cR
      obtain ⟨L, hL⟩ : ∃ L, leastOf ((zs.take len).drop i) = L := ⟨_, rfl⟩
      have hL6 := leastOf_le ((zs.take len).drop i)
      rw [hL] at hL6
      have ND := Lib.hid (show escapedC (c :: t) ((zs.take len).drop i) = codedC L c ++ escapedC t ((zs.take len).drop (i + 1)) by rw [escapedC_cons, hL, List.drop_drop])
      have CS := Lib.hid (show (encs (codedC L c)).length ≤ 40 by have := encs_len_ge (codedC L c); have := codedC_len L c hc hL6.2; omega)
      have LL := Lib.hid hL
      have HCP := Lib.hid hc
      clear hW hne cR hc hL
      go_upto_region 8 with (go_at_call 24; refine (CR.out).mono ?_; rintro e w' ⟨rfl, rfl⟩)
      go_cut [44] (fun b wx => ∃ B : Bool, b = .bool B ∧ wx = w ∧ EscCase w a zs len i L B)
      case first =>
        by_cases hi : i < len
        · obtain ⟨b, off, v, rfl, hcl2, hzv⟩ := HC.out i hi
          have hiz : (i : Int) < (len : Int) := by omega
          by_cases hv : 1 < v ∧ v < 7
          · have E : Hid (EscCase w (some ⟨b, off, none⟩) zs len i L true) := Lib.hid (.inl ⟨rfl, b, off, v, hi, rfl, hcl2, by have := leastOf_yes hi hzv hv; rw [LL.out] at this; omega⟩)
            obtain ⟨hv1, hv2⟩ := hv
            clear hzv
            go_wp2_with fail
            go_meet
            exact ⟨true, rfl, rfl, E.out⟩
          · have E : Hid (EscCase w (some ⟨b, off, none⟩) zs len i L false) := Lib.hid (.inr ⟨rfl, by have := leastOf_no hi hzv hv; rw [LL.out] at this; exact this⟩)
            rcases (by omega : v ≤ 1 ∨ (1 < v ∧ 7 ≤ v)) with hv1 | ⟨hv1, hv2⟩
            all_goals
              clear hzv hv
              go_wp2_with fail
              go_meet
              exact ⟨false, by first | rfl | rw [decide_eq_false (by omega)], rfl, E.out⟩
        · have E : Hid (EscCase w a zs len i L false) := Lib.hid (.inr ⟨rfl, by have := leastOf_end (zs := zs) (len := len) (i := i) (by omega); rw [LL.out] at this; exact this⟩)
          have hiz : ¬ (i : Int) < (len : Int) := by omega
          go_wp2_with fail
          go_meet
          exact ⟨false, rfl, rfl, E.out⟩
      case rest =>
        obtain ⟨B, rfl, rfl, hE⟩ := hcut
        obtain ⟨w, rfl⟩ : ∃ w : World, w = wc := ⟨_, rfl⟩
        go_upto_if 44 with fail
        go_cut [10] (fun x wx => x = .int .i64 (L : Int) ∧ wx = w)
        case first =>
          rcases hE with ⟨rfl, b, off, v, hi, rfl, hcl2, hvL⟩ | ⟨rfl, hL1⟩
          · have hiz : (i : Int) < (len : Int) := by omega
            have V := Lib.hid hvL
            clear hvL
            go_wp2_with fail
            go_meet
            exact ⟨by rw [V.out], rfl⟩
          · have V := Lib.hid hL1
            clear hL1
            go_wp2_with fail
            go_meet
            exact ⟨by rw [V.out]; rfl, rfl⟩
        case rest =>
          obtain ⟨rfl, rfl⟩ := hcut
          obtain ⟨w, rfl⟩ : ∃ w : World, w = wc := ⟨_, rfl⟩
          clear hE
          go_wp2_with fail
          go_loop [8, 11] (fun cv dv => EscRel L c cv dv) (fun cv dv => (intOf cv).toNat + (7 - eSize dv))
          case atStart => exact ⟨_, [], c, rfl, rfl, rfl, rfl, Nat.le_refl _, by simp, .inr (.inr (by omega)), escRel_start L c⟩
          case round =>
            obtain ⟨D, ds, k', rfl, rfl, hD, hDs, hkc, hln, _, hdig⟩ := hrel
            have hDz : D.size ≤ c + 7 := by omega
            by_cases hgo : 0 < k' ∨ ds.length < L
            · have HG := Lib.hid (hdig.symm.trans (digF_next hgo))
              have HD := Lib.hid hD
              have HS := Lib.hid hDs
              rcases hgo with hg | hg
              · have hgz : 0 < (k' : Int) := by omega
                have m0 : bits .and .i64 (k' : Int) 15 = (k' : Int) % 16 := i64_and15 (by omega) (by omega)
                have hm0 : 0 ≤ (k' : Int) % 16 := by omega
                have hm1 : (k' : Int) % 16 + 1 ≤ 16 := by omega
                have hm2 : (k' : Int) % 16 ≤ (k' : Int) % 16 + 1 := by omega
                clear hdig hD hDs hg
                go_wp2_with fail
                go_round
                case rel =>
                  refine ⟨_, hexDig (k' % 16) :: ds, k' / 16, by go_num, rfl, ?_, ?_, by omega, by simp only [List.length_cons]; omega, .inr (.inr (by omega)), HG.out.symm⟩
                  · rw [app_list, encs_cons, HD.out]; exact congrArg (· ++ encs ds) (hexTab_cut ⟨k' % 16, Nat.mod_lt k' (by omega)⟩)
                  · rw [app_size, HS.out, size_of (hexTab_cut ⟨k' % 16, Nat.mod_lt k' (by omega)⟩), hexDig_enc1, List.length_cons]; omega
                case measure =>
                  show ((k' : Int) / 16).toNat + (7 - (_ ++ D : ByteArray).size) < (k' : Int).toNat + (7 - D.size)
                  rw [app_size, size_of (hexTab_cut ⟨k' % 16, Nat.mod_lt k' (by omega)⟩), hexDig_enc1]
                  omega
              · by_cases hg0 : 0 < k'
                · have hgz : 0 < (k' : Int) := by omega
                  have m0 : bits .and .i64 (k' : Int) 15 = (k' : Int) % 16 := i64_and15 (by omega) (by omega)
                  have hm0 : 0 ≤ (k' : Int) % 16 := by omega
                  have hm1 : (k' : Int) % 16 + 1 ≤ 16 := by omega
                  have hm2 : (k' : Int) % 16 ≤ (k' : Int) % 16 + 1 := by omega
                  clear hdig hD hDs hg hg0
                  go_wp2_with fail
                  go_round
                  case rel =>
                    refine ⟨_, hexDig (k' % 16) :: ds, k' / 16, by go_num, rfl, ?_, ?_, by omega, by simp only [List.length_cons]; omega, .inr (.inr (by omega)), HG.out.symm⟩
                    · rw [app_list, encs_cons, HD.out]; exact congrArg (· ++ encs ds) (hexTab_cut ⟨k' % 16, Nat.mod_lt k' (by omega)⟩)
                    · rw [app_size, HS.out, size_of (hexTab_cut ⟨k' % 16, Nat.mod_lt k' (by omega)⟩), hexDig_enc1, List.length_cons]; omega
                  case measure =>
                    show ((k' : Int) / 16).toNat + (7 - (_ ++ D : ByteArray).size) < (k' : Int).toNat + (7 - D.size)
                    rw [app_size, size_of (hexTab_cut ⟨k' % 16, Nat.mod_lt k' (by omega)⟩), hexDig_enc1]
                    omega
                · obtain rfl : k' = 0 := by omega
                  have hgz : ¬ (0 : Int) < ((0 : Nat) : Int) := by omega
                  have hgL : (D.size : Int) < (L : Int) := by omega
                  have hgL2 : D.size ≤ 5 := by omega
                  have hln2 : ds.length + 1 ≤ 6 := by omega
                  have m0 : bits .and .i64 0 15 = 0 := by rw [i64_and15 (by omega) (by omega)]; rfl
                  clear hdig hD hDs hg hg0
                  go_wp2_with fail
                  go_round
                  case rel =>
                    refine ⟨_, hexDig 0 :: ds, 0, by go_num, rfl, ?_, ?_, by omega, by simp only [List.length_cons]; omega, .inr (.inr (by omega)), HG.out.symm⟩
                    · rw [app_list, encs_cons, HD.out]; exact congrArg (· ++ encs ds) (hexTab_cut ⟨0, by omega⟩)
                    · rw [app_size, HS.out, size_of (hexTab_cut ⟨0, by omega⟩), hexDig_enc1, List.length_cons]; omega
                  case measure =>
                    show ((0 : Int)).toNat + (7 - (_ ++ D : ByteArray).size) < ((0 : Nat) : Int).toNat + (7 - D.size)
                    rw [app_size, size_of (hexTab_cut ⟨0, by omega⟩), hexDig_enc1]
                    omega
            · obtain rfl : k' = 0 := by omega
              have hg1 : ¬ (0 : Int) < ((0 : Nat) : Int) := by omega
              have hgL : ¬ (D.size : Int) < (L : Int) := by omega
              rw [digF_done (by omega)] at hdig
              have hfin : ∀ x y : ByteArray, x.data.toList = [92] → y.data.toList = [32] → (x ++ D ++ y).data.toList = encs (codedC L c) := by
                intro x y hx hy
                rw [app_list, app_list, hx, hy, hD]
                unfold codedC
                rw [← hdig, encs_cons, encs_append, encs_one, enc_ascii 92 (by omega), enc_ascii 32 (by omega)]
                simp
              have HF := Lib.hid hfin
              clear hdig hD hDs hgo hfin
              go_wp2_with fail
              go_round
              case rel => exact ⟨_, k + n, i + 1, t, rfl, by go_num, by go_num, hkn, by omega, STEP.out _ ND.out CS.out _ (HF.out _ _ rfl rfl)⟩
              case measure => simp [intOf]; omega
end Go.Proofs.YtmgkccnfhkcncaaDoor
