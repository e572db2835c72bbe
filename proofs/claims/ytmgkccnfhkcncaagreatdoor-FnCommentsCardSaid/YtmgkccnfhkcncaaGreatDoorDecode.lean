/-
  decodeEscapesInToken: what it returns, at every string of at most 2^40 bytes ('decodeB' of its bytes); new memory alone is written.
-/
import Derived.Test.YtmgkccnfhkcncaaGreatDoorBuilder
import Derived.Test.YtmgkccnfhkcncaaGreatDoorRuneAt
import Derived.Test.YtmgkccnfhkcncaaGreatDoorChr
import Derived.Deep.DeepCutAuto
import Derived.Deep.CutBlock
namespace Go.Proofs.YtmgkccnfhkcncaaGreatDoor
open Go.RowKit

/-! ### the plain steps -/
/-- The loop, from what is left on. -/
def decL (l : List UInt8) : List UInt8 := decB l.length l
theorem decL_nil : decL [] = [] := rfl
theorem tail_size (t : ByteArray) (n : Nat) : (t.extract n t.size).size = t.size - n := by
  show (t.extract n t.size).data.toList.length = _
  rw [Lib.extract_to_end, List.length_drop]; rfl
theorem list_ne {t : ByteArray} (h : ¬ t.size = 0) : t.data.toList ≠ [] := fun e => h (by show t.data.toList.length = 0; rw [e]; rfl)
theorem list_nil {t : ByteArray} (h : t.size = 0) : t.data.toList = [] := List.eq_nil_of_length_eq_zero h
theorem enc_le (r : Int) : (Lib.encodeRune r).length ≤ 4 := by
  unfold Lib.encodeRune; rw [List.length_map]; exact (Lib.encodeRuneZ_length r).2
theorem decL_step (l : List UInt8) (h : l ≠ []) : decL l = (stepB l).1 ++ decL (stepB l).2 := by
  have hl := stepB_len l h
  unfold decL
  obtain ⟨n, hn⟩ : ∃ n, l.length = n + 1 := ⟨l.length - 1, by omega⟩
  rw [hn]
  conv => lhs; unfold decB
  rw [if_neg h, decB_more n _ _ (by omega) (Nat.le_refl _)]
theorem decL_plain {l : List UInt8} {c n : Nat} (h : l ≠ []) (hd : Lib.decodeL l = (c, n)) (hc : c ≠ 92) : decL l = Lib.encodeRune ((if c = 0 then 65533 else c : Nat) : Int) ++ decL (l.drop n) := by
  rw [decL_step l h]; unfold stepB; rw [hd]; dsimp only; rw [if_pos hc]
theorem decL_end {l : List UInt8} {n : Nat} (h : l ≠ []) (hd : Lib.decodeL l = (92, n)) (hr : l.drop n = []) : decL l = Lib.encodeRune 65533 ++ [] := by
  rw [decL_step l h]; unfold stepB; rw [hd]; dsimp only; rw [if_neg (by simp), if_pos hr, hr]; rfl
theorem decL_esc {l : List UInt8} {n d m : Nat} (h : l ≠ []) (hd : Lib.decodeL l = (92, n)) (hr : l.drop n ≠ []) (hd2 : Lib.decodeL (l.drop n) = (d, m)) :
    decL l = (escB d ((l.drop n).drop m)).1 ++ decL (escB d ((l.drop n).drop m)).2 := by
  rw [decL_step l h]; unfold stepB; rw [hd]; dsimp only; rw [if_neg (by simp), if_neg hr, hd2]
theorem escB_nl {d : Nat} (u : List UInt8) (h : d = 10 ∨ d = 12) : escB d u = ([], u) := by
  unfold escB; rcases h with rfl | rfl <;> rfl
theorem escB_cr (u : List UInt8) : escB 13 u = ([], dropLfB u) := rfl
theorem escB_chr {d : Nat} (u : List UInt8) (hx : hexv d = none) (h : ¬ (d = 10 ∨ d = 12)) (h2 : d ≠ 13) : escB d u = (Lib.encodeRune (d : Int), u) := by
  unfold escB; rw [hx]; dsimp only; rw [if_neg h, if_neg h2]
theorem escB_hex {d x : Nat} (u : List UInt8) (hx : hexv d = some x) : escB d u = (Lib.encodeRune ((fix (hexRunB 5 x u).1 : Nat) : Int), dropWsB (hexRunB 5 x u).2) := by
  unfold escB; rw [hx]
theorem hexZ_none {c : Nat} (h : hexv c = none) : hexZ (c : Int) = -1 := by rw [hex_nat, h]
theorem hexZ_some {c x : Nat} (h : hexv c = some x) : hexZ (c : Int) = (x : Int) := by rw [hex_nat, h]
theorem decG_of {l : List UInt8} (h : l ≠ []) : decG l = Lib.decodeL l := by unfold decG; rw [if_neg h]

theorem toList_size' (s : ByteArray) : s.data.toList.length = s.size := rfl

/-! ### the state of the walk: a builder in block B holds acc; the tables lie; nothing below B has changed since w -/
def DSt (B : Nat) (acc : List UInt8) (w wr : World) : Prop :=
  Lib.IsBuilderF 128 5 B B (Lib.byteCells acc) wr ∧ Below B w wr ∧ B ≤ wr.heap.size ∧ Lib.Utf8Tabs 0 1 wr

theorem dRune {B : Nat} {acc : List UInt8} {w wr : World} (h : DSt B acc w wr) (t : ByteArray) (c n : Nat) (hd : decG t.data.toList = (c, n)) :
    Calls Tryz.prog 64 #[.string t] wr fun e w' => e = .returned (.tuple #[.int .i32 (c : Int), .int .i64 (n : Int)]) ∧ DSt B acc w w' := by
  obtain ⟨h1, h2, h3, h4⟩ := h
  refine (decodeRune t wr h4).mono ?_
  rintro e w' ⟨rfl, hb⟩
  rw [hd]
  exact ⟨rfl, h1.below hb, h2.trans (hb.mono h3), Nat.le_trans h3 hb.size, Utf8Tabs_below h4 hb⟩

theorem dWrite {B : Nat} {acc : List UInt8} {w wr : World} (h : DSt B acc w wr) (r : Int) (hr0 : -2147483648 ≤ r) (hr1 : r ≤ 2147483647) (hl : acc.length ≤ 4398046511104) (hB : B = w.heap.size) (hT : Lib.Utf8Tabs 0 1 w) :
    Calls Tryz.prog 82 #[.pointer (some ⟨B, 0, none⟩), .int .i32 r] wr fun e w' => (∃ k : Int, e = .returned (.tuple #[.int .i64 k, .nilIface])) ∧ DSt B (acc ++ Lib.encodeRune r) w w' := by
  obtain ⟨h1, h2, h3, h4⟩ := h
  refine (writeRune B B _ r hr0 hr1 wr h1 (by rw [Lib.byteCells_length]; omega) h3).mono ?_
  rintro e w' ⟨rfl, hb, hw, _⟩
  refine ⟨⟨_, rfl⟩, ?_, h2.trans hw, Nat.le_trans h3 hw.size, ?_⟩
  · rw [Lib.byteCells_append, Lib.byteCells_encodeRune]; exact .inr hb
  · subst hB; exact Utf8Tabs_below hT (h2.trans hw)

theorem getElem_list (s : ByteArray) (k : Nat) (h : k < s.size) : s.data.toList[k]'(by rw [toList_size']; exact h) = s[k] := rfl
theorem clean_at {l : List UInt8} (h : l.all clean = true) (k : Nat) (hk : k < l.length) : clean l[k] = true := List.all_eq_true.1 h _ (List.getElem_mem hk)
theorem clean_ne {x : UInt8} (h : clean x = true) : (x.toNat : Int) ≠ 92 ∧ (x.toNat : Int) ≠ 0 := by
  unfold clean at h
  rw [Bool.and_eq_true, bne_iff_ne, bne_iff_ne] at h
  refine ⟨fun e => h.1 ?_, fun e => h.2 ?_⟩
  · apply UInt8.toNat_inj.1; show x.toNat = 92; omega
  · apply UInt8.toNat_inj.1; show x.toNat = 0; omega
theorem unclean_eq {x : UInt8} (h : ¬ clean x = true) : (x.toNat : Int) = 92 ∨ (x.toNat : Int) = 0 := by
  unfold clean at h
  rw [Bool.and_eq_true, bne_iff_ne, bne_iff_ne] at h
  by_cases h1 : x = 92
  · left; subst h1; rfl
  · right
    by_cases h2 : x = 0
    · subst h2; rfl
    · exact absurd ⟨h1, h2⟩ h

set_option maxHeartbeats 800000 in
set_option maxRecDepth 100000 in
theorem decode_clean (s : ByteArray) (w : World) (hs : s.size ≤ 1099511627776) (hc : s.data.toList.all clean = true) :
    Calls Tryz.prog 61 #[.string s] w fun e w' => e = .returned (.string s) ∧ w = w' := by
  have C := Lib.hid hc
  clear hc
  go_enter Tryz.func61, Tryz.ntmps61
  go_wp2
  go_loop [3, 4] (fun i _ => ∃ k : Nat, k ≤ s.size ∧ i = .int .i64 k) (fun i _ => s.size - (intOf i).toNat)
  case atStart => exact ⟨0, Nat.zero_le _, rfl⟩
  case round =>
    obtain ⟨k, hk, rfl⟩ := hrel
    by_cases hlt : k < s.size
    · obtain ⟨x, hx⟩ : ∃ x, s[k] = x := ⟨_, rfl⟩
      have hcl := clean_ne (clean_at C.out k (by rw [toList_size']; exact hlt))
      rw [getElem_list s k hlt, hx] at hcl
      have t1 : ((x.toNat : Int) == 92) = false := beq_eq_false_iff_ne.2 hcl.1
      have t2 : ((x.toNat : Int) == 0) = false := beq_eq_false_iff_ne.2 hcl.2
      clear hcl
      go_wp2
      go_round
      case rel => exact ⟨k + 1, by omega, by go_num⟩
      case measure => simp [intOf]; omega
    · obtain rfl : k = s.size := by omega
      go_wp2
      go_ret
      exact ⟨rfl, rfl⟩

theorem clean_split (l : List UInt8) (h : ¬ l.all clean = true) : ∃ x r, l.dropWhile clean = x :: r ∧ clean x = false ∧ l = l.takeWhile clean ++ x :: r := by
  induction l with
  | nil => simp at h
  | cons a t ih =>
    by_cases ha : clean a = true
    · have : ¬ t.all clean = true := by intro hh; exact h (by simp [ha, hh])
      obtain ⟨x, r, h1, h2, h3⟩ := ih this
      refine ⟨x, r, by simp [ha, h1], h2, ?_⟩
      rw [List.takeWhile_cons_of_pos ha, List.cons_append, ← h3]
    · have ha : clean a = false := by simpa using ha
      exact ⟨a, t, by simp [ha], ha, by simp [ha]⟩
theorem clean_prefix (l : List UInt8) : ∀ k, k < (l.takeWhile clean).length → ∀ h : k < l.length, clean l[k] = true := by
  intro k hk h
  have h1 : (l.takeWhile clean)[k] = l[k] := by
    have := List.takeWhile_prefix (p := clean) (l := l)
    exact List.IsPrefix.getElem this hk
  rw [← h1]
  exact List.all_eq_true.1 List.all_takeWhile _ (List.getElem_mem hk)

theorem dString {B : Nat} {acc : List UInt8} {w wr : World} (h : DSt B acc w wr) :
    Calls Tryz.prog 84 #[.pointer (some ⟨B, 0, none⟩)] wr fun e w' => e = .returned (.string ⟨acc.toArray⟩) ∧ Below B w w' := by
  obtain ⟨h1, h2, h3, _⟩ := h
  refine (Tryz.Builder_String_any_k B B acc wr h1 h3).mono ?_
  rintro e w' ⟨rfl, _, hw, _⟩
  exact ⟨rfl, h2.trans hw⟩
theorem dStart (w : World) (hT : Lib.Utf8Tabs 0 1 w) (s : ByteArray) (hs : s.size ≤ 1099511627776) :
    Calls Tryz.prog 81 #[.pointer (some ⟨w.heap.size, 0, none⟩), .string s] (w.alloc (.cells #[.pointer none, .slice none 0 0] 128)) fun e w' => (∃ k : Int, e = .returned (.tuple #[.int .i64 k, .nilIface])) ∧ DSt w.heap.size s.data.toList w w' := by
  refine (writeString w.heap.size w.heap.size [] s _ (Lib.IsBuilderF.of (Lib.fresh_isBuilder 128 5 w)) (by simp; omega) (by simp)).mono ?_
  rintro e w' ⟨rfl, hb, hw, _⟩
  have hbw : Below w.heap.size w w' := ((Below.refl _ w).alloc (Nat.le_refl _) _).trans hw
  refine ⟨⟨_, rfl⟩, .inr ?_, hbw, hbw.size, Utf8Tabs_below hT hbw⟩
  rw [← Lib.strCells_eq]
  exact hb

theorem ret_str {a b : List UInt8} (h : a = b) : Ending.returned (.string ⟨a.toArray⟩) = .returned (.string ⟨b.toArray⟩) := by rw [h]

/-- How long a string is. -/
def strSize : Value → Nat
  | .string t => t.size
  | _ => 0
/-- What the main loop carries: 'total' is the whole answer. -/
def DRel (B S : Nat) (total : List UInt8) (w : World) (inner : Value) (wr : World) : Prop :=
  ∃ (t : ByteArray) (acc : List UInt8), inner = .string t ∧ DSt B acc w wr ∧ acc ++ decL t.data.toList = total ∧ acc.length + 4 * t.size ≤ 4 * S

theorem hexRunB_nil (n v : Nat) {l : List UInt8} (h : l = []) : hexRunB n v l = (v, l) := by
  subst h; cases n <;> simp [hexRunB]
theorem hexRunB_none {n v e k : Nat} {l : List UInt8} (h : l ≠ []) (hd : Lib.decodeL l = (e, k)) (hx : hexv e = none) : hexRunB (n + 1) v l = (v, l) := by
  unfold hexRunB; rw [if_neg h, hd]; dsimp only; rw [hx]
theorem hexRunB_some {n v e k y : Nat} {l : List UInt8} (h : l ≠ []) (hd : Lib.decodeL l = (e, k)) (hx : hexv e = some y) : hexRunB (n + 1) v l = hexRunB n (v * 16 + y) (l.drop k) := by
  conv => lhs; unfold hexRunB
  rw [if_neg h, hd]; dsimp only; rw [hx]
/-- What the loop over digits carries. -/
def HexRel (B : Nat) (acc : List UInt8) (w : World) (V : Nat) (R : List UInt8) (inner hex i : Value) (wx : World) : Prop :=
  ∃ (t3 : ByteArray) (v j : Nat), j ≤ 5 ∧ inner = .string t3 ∧ hex = .int .i64 (v : Int) ∧ i = .int .i64 (j : Int) ∧ hexRunB (5 - j) v t3.data.toList = (V, R) ∧ v < 16 ^ (j + 1) ∧ DSt B acc w wx

set_option maxHeartbeats 4000000 in
set_option maxRecDepth 1000000 in
theorem decode_dirty (s : ByteArray) (w : World) (hs : s.size ≤ 1099511627776) (hc : ¬ s.data.toList.all clean = true) (hT : Lib.Utf8Tabs 0 1 w) :
    Calls Tryz.prog 61 #[.string s] w fun e w' => e = .returned (.string ⟨(s.data.toList.takeWhile clean ++ decL (s.data.toList.dropWhile clean)).toArray⟩) ∧ Below w.heap.size w w' := by
  obtain ⟨total, htot⟩ : ∃ total, s.data.toList.takeWhile clean ++ decL (s.data.toList.dropWhile clean) = total := ⟨_, rfl⟩
  rw [htot]
  obtain ⟨x0, r0, hdw, hx0, hspl⟩ := clean_split _ hc
  obtain ⟨k0, hk0⟩ : ∃ k0, (s.data.toList.takeWhile clean).length = k0 := ⟨_, rfl⟩
  have hk0s : k0 < s.size := by
    have := congrArg List.length hspl
    rw [List.length_append, hk0, toList_size'] at this
    simp at this; omega
  have hpre : (s.extract 0 k0).data.toList = s.data.toList.takeWhile clean := by
    rw [Lib.extract_data, List.drop_zero, Nat.sub_zero]
    conv => lhs; rw [hspl]
    rw [← hk0, List.take_left]
  have hsuf : (s.extract k0 s.size).data.toList = s.data.toList.dropWhile clean := by
    rw [Lib.extract_to_end]
    conv => lhs; rw [hspl]
    rw [← hk0, List.drop_left, hdw]
  have hbk : s[k0] = x0 := by
    rw [← getElem_list s k0 hk0s]
    have : s.data.toList[k0]? = some x0 := by
      rw [hspl, List.getElem?_append_right (by omega), hk0]; simp
    rw [List.getElem?_eq_getElem (by rw [toList_size']; exact hk0s)] at this
    exact Option.some.inj this
  have CP := Lib.hid (fun k hk h => clean_prefix s.data.toList k (by rw [hk0]; exact hk) h)
  have U := unclean_eq (x := x0) (by simp [hx0])
  have T := Lib.hid hT
  have PRE := Lib.hid hpre
  have SUF := Lib.hid hsuf
  have TOT := Lib.hid htot
  have K0 := Lib.hid hk0
  clear hc hT hpre hsuf htot hk0 hspl hdw hx0
  go_enter Tryz.func61, Tryz.ntmps61
  go_upto_block 0 with fail
  go_cut [3] (fun i wx => i = .int .i64 k0 ∧ wx = w)
  case first =>
    go_wp2_with fail
    go_loop [3, 4] (fun i _ => ∃ k : Nat, k ≤ k0 ∧ i = .int .i64 k) (fun i _ => s.size - (intOf i).toNat)
    case atStart => exact ⟨0, Nat.zero_le _, rfl⟩
    case round =>
      obtain ⟨k, hk, rfl⟩ := hrel
      by_cases hlt : k < k0
      · have hks : k < s.size := by omega
        obtain ⟨x, hx⟩ : ∃ x, s[k] = x := ⟨_, rfl⟩
        have hcl := clean_ne (CP.out k hlt (by rw [toList_size']; exact hks))
        rw [getElem_list s k hks, hx] at hcl
        have t1 : ((x.toNat : Int) == 92) = false := beq_eq_false_iff_ne.2 hcl.1
        have t2 : ((x.toNat : Int) == 0) = false := beq_eq_false_iff_ne.2 hcl.2
        clear hcl
        go_wp2
        go_round
        case rel => exact ⟨k + 1, by omega, by go_num⟩
        case measure => simp [intOf]; omega
      · obtain rfl : k = k0 := by omega
        rcases U with U | U
        · have t1 : ((x0.toNat : Int) == 92) = true := beq_iff_eq.2 U
          clear U
          go_wp2_with fail
          go_meet
          exact ⟨rfl, rfl⟩
        · have t1 : ((x0.toNat : Int) == 92) = false := beq_eq_false_iff_ne.2 (by omega)
          have t2 : ((x0.toNat : Int) == 0) = true := beq_iff_eq.2 U
          clear U
          go_wp2_with fail
          go_meet
          exact ⟨rfl, rfl⟩
  case rest =>
    obtain ⟨rfl, rfl⟩ := hcut
    obtain ⟨w0, rfl⟩ : ∃ w0 : World, w0 = wc := ⟨_, rfl⟩
    clear U
    have t1 : ((k0 : Int) == (s.size : Int)) = false := beq_eq_false_iff_ne.2 (by omega)
    go_wp2_with fail
    refine (dStart w0 T.out (s.extract 0 k0) (by rw [show (s.extract 0 k0).size = (s.extract 0 k0).data.toList.length from rfl, PRE.out, K0.out]; omega)).mono ?_
    rintro e w1 ⟨⟨k, rfl⟩, D1⟩
    have HD := Lib.hid D1
    clear D1
    go_wp2_with fail
    go_loopw [0] (fun inner wr => DRel w0.heap.size s.size total w0 inner wr) (fun inner _ => strSize inner)
    case atStart =>
      refine ⟨s.extract k0 s.size, _, rfl, HD.out, ?_, ?_⟩
      · rw [PRE.out, SUF.out, TOT.out]
      · rw [PRE.out, K0.out, tail_size]; omega
    case round =>
      obtain ⟨t, acc, rfl, hD, hacc, hlen⟩ := hrel
      clear HD t1
      have HA := Lib.hid hacc
      have HD := Lib.hid hD
      clear hacc hD
      by_cases ht : t.size = 0
      · have hf : acc = total := by rw [← HA.out, list_nil ht, decL_nil, List.append_nil]
        have HF := Lib.hid hf
        clear hf
        go_wp2_with (go_at_call 84; refine (dString HD.out).mono ?_; rintro e w2 ⟨rfl, hb⟩)
        go_ret
        exact ⟨ret_str HF.out, hb⟩
      · have htn := list_ne ht
        obtain ⟨c, n, hdec⟩ : ∃ c n, Lib.decodeL t.data.toList = (c, n) := ⟨_, _, rfl⟩
        have hn1 := Lib.decodeL_width t.data.toList
        have hn2 := Lib.decodeL_le t.data.toList htn
        have hcr := Lib.decodeL_rune t.data.toList
        rw [hdec] at hn1 hn2 hcr
        rw [toList_size'] at hn2
        dsimp only at hn1 hn2 hcr
        have C1 := Lib.hid (dRune HD.out t c n (by rw [decG_of htn, hdec]))
        have hsz := tail_size t n
        have SZ := Lib.hid hsz
        have DEC := Lib.hid hdec
        have TN := Lib.hid htn
        clear hsz hdec htn
        by_cases h92 : c = 92
        · subst h92
          by_cases hm : n = t.size
          · have HP := Lib.hid (decL_end TN.out DEC.out (by rw [hm]; exact List.drop_eq_nil_of_le (Nat.le_refl _)))
            have tz : (((t.size - n : Nat) : Int) == 0) = true := beq_iff_eq.2 (by omega)
            have M := Lib.hid hm
            clear hm
            go_wp2_with fail
            refine (C1.out).mono ?_
            rintro e w1 ⟨rfl, D1⟩
            have HD1 := Lib.hid D1
            clear D1
            go_wp2_with fail
            refine (dWrite HD1.out 65533 (by omega) (by omega) (by omega) rfl T.out).mono ?_
            rintro e w2 ⟨⟨k, rfl⟩, D2⟩
            have HD2 := Lib.hid D2
            clear D2
            go_wp2_with fail
            go_roundw
            case rel =>
              refine ⟨t.extract n t.size, _, rfl, HD2.out, ?_, ?_⟩
              · rw [← HA.out, HP.out, Lib.extract_to_end, M.out, show t.data.toList.drop t.size = [] from List.drop_eq_nil_of_le (Nat.le_refl _), decL_nil]; simp
              · have := enc_le 65533; rw [SZ.out, List.length_append]; omega
            case measure => show (t.extract n t.size).size < t.size; rw [SZ.out]; omega
          · have tz : (((t.size - n : Nat) : Int) == 0) = false := beq_eq_false_iff_ne.2 (by omega)
            go_wp2_with fail
            refine (C1.out).mono ?_
            rintro e w1 ⟨rfl, D1⟩
            have HD1 := Lib.hid D1
            clear D1 C1
            go_wp2_with fail
            clear tz
            obtain ⟨t1, ht1⟩ : ∃ t1, t1 = t.extract n t.size := ⟨_, rfl⟩
            rw [← ht1]
            have hl1 : t1.data.toList = t.data.toList.drop n := by rw [ht1]; exact Lib.extract_to_end t n
            have hs1 : t1.size = t.size - n := by rw [ht1]; exact SZ.out
            clear ht1 SZ
            have h1n : ¬ t1.size = 0 := by omega
            have htn1 := list_ne h1n
            obtain ⟨d, m, hdec1⟩ : ∃ d m, Lib.decodeL t1.data.toList = (d, m) := ⟨_, _, rfl⟩
            have hm1 := Lib.decodeL_width t1.data.toList
            have hm2 := Lib.decodeL_le t1.data.toList htn1
            have hdr := Lib.decodeL_rune t1.data.toList
            rw [hdec1] at hm1 hm2 hdr
            rw [toList_size'] at hm2
            dsimp only at hm1 hm2 hdr
            have C2 := Lib.hid (dRune HD1.out t1 d m (by rw [decG_of htn1, hdec1]))
            have HP := Lib.hid (decL_esc (d := d) (m := m) TN.out DEC.out (by rw [← hl1]; exact htn1) (by rw [← hl1]; exact hdec1))
            rw [← hl1] at HP
            have hz1 : t1.size ≤ t.size := by omega
            have hz2 : t1.size < t.size := by omega
            have hz3 : acc.length + 4 * t1.size + 4 ≤ 4 * s.size := by omega
            clear hl1 hs1 hm h1n htn1 hdec1 DEC TN hn1 hn2 hlen
            have SZ1 := Lib.hid (tail_size t1 m)
            cases hx : hexv d with
            | none =>
              have X := Lib.hid (fun w => isHex_none (d : Int) w (hexZ_none hx))
              by_cases e1 : d = 10 ∨ d = 12
              · rw [escB_nl _ e1] at HP
                clear hx
                rcases e1 with rfl | rfl
                all_goals
                  refine (C2.out).mono ?_
                  rintro e w2 ⟨rfl, D2⟩
                  have HD2 := Lib.hid D2
                  clear D2 C2
                  go_wp2_with (go_at_call 83; refine (X.out _).mono ?_; rintro e w' ⟨rfl, rfl⟩)
                  go_roundw
                  case rel =>
                    refine ⟨t1.extract m t1.size, _, rfl, HD2.out, ?_, ?_⟩
                    · rw [← HA.out, HP.out, Lib.extract_to_end]; rfl
                    · rw [SZ1.out]; omega
                  case measure => show (t1.extract m t1.size).size < t.size; rw [SZ1.out]; omega
              · by_cases e2 : d = 13
                · subst e2
                  rw [escB_cr] at HP
                  clear hx e1
                  refine (C2.out).mono ?_
                  rintro e w2 ⟨rfl, D2⟩
                  have HD2 := Lib.hid D2
                  clear D2 C2
                  go_wp2_with (go_at_call 83; refine (X.out _).mono ?_; rintro e w' ⟨rfl, rfl⟩)
                  obtain ⟨t2, ht2⟩ : ∃ t2, t2 = t1.extract m t1.size := ⟨_, rfl⟩
                  rw [← ht2]
                  have hl2 : t2.data.toList = t1.data.toList.drop m := by rw [ht2]; exact Lib.extract_to_end t1 m
                  have hs2 : t2.size = t1.size - m := by rw [ht2]; exact SZ1.out
                  rw [← hl2] at HP
                  clear ht2 SZ1 hl2
                  have hz4 : t2.size < t.size := by omega
                  have hz5 : acc.length + 4 * t2.size + 4 ≤ 4 * s.size := by omega
                  clear hs2
                  obtain ⟨e0, kk, hdec2⟩ : ∃ e0 kk, decG t2.data.toList = (e0, kk) := ⟨_, _, rfl⟩
                  have C3 := Lib.hid (dRune HD2.out t2 e0 kk hdec2)
                  have hlf : dropLfB t2.data.toList = if e0 = 10 then t2.data.toList.drop kk else t2.data.toList := by unfold dropLfB; rw [hdec2]
                  by_cases e3 : e0 = 10
                  · rw [if_pos e3] at hlf
                    subst e3
                    have htn2 : ¬ t2.size = 0 := by
                      intro h0
                      rw [list_nil h0] at hdec2
                      exact absurd (congrArg Prod.fst hdec2) (show ¬ (65533 : Nat) = 10 by decide)
                    have hk2 : kk ≤ t2.size := by
                      rw [decG_of (list_ne htn2)] at hdec2
                      have := Lib.decodeL_le t2.data.toList (list_ne htn2)
                      rw [hdec2] at this
                      exact this
                    rw [hlf] at HP
                    have SZ2 := Lib.hid (tail_size t2 kk)
                    clear hlf hdec2 htn2
                    refine (C3.out).mono ?_
                    rintro e w3 ⟨rfl, D3⟩
                    have HD3 := Lib.hid D3
                    clear D3 C3
                    go_wp2_with fail
                    go_roundw
                    case rel =>
                      refine ⟨t2.extract kk t2.size, _, rfl, HD3.out, ?_, ?_⟩
                      · rw [← HA.out, HP.out, Lib.extract_to_end]; rfl
                      · rw [SZ2.out]; omega
                    case measure => show (t2.extract kk t2.size).size < t.size; rw [SZ2.out]; omega
                  · rw [if_neg e3] at hlf
                    rw [hlf] at HP
                    have t10 : ((e0 : Int) == 10) = false := beq_eq_false_iff_ne.2 (by omega)
                    clear hlf hdec2 e3
                    refine (C3.out).mono ?_
                    rintro e w3 ⟨rfl, D3⟩
                    have HD3 := Lib.hid D3
                    clear D3 C3
                    go_wp2_with fail
                    go_roundw
                    case rel =>
                      refine ⟨t2, _, rfl, HD3.out, ?_, ?_⟩
                      · rw [← HA.out, HP.out]; rfl
                      · omega
                    case measure => show t2.size < t.size; omega
                · rw [escB_chr _ hx e1 e2] at HP
                  have t1b : ((d : Int) == 10) = false := beq_eq_false_iff_ne.2 (by omega)
                  have t2b : ((d : Int) == 12) = false := beq_eq_false_iff_ne.2 (by omega)
                  have t3b : ((d : Int) == 13) = false := beq_eq_false_iff_ne.2 (by omega)
                  clear hx e1 e2
                  refine (C2.out).mono ?_
                  rintro e w2 ⟨rfl, D2⟩
                  have HD2 := Lib.hid D2
                  clear D2 C2
                  go_wp2_with (go_at_call 83; refine (X.out _).mono ?_; rintro e w' ⟨rfl, rfl⟩)
                  refine (dWrite HD2.out (d : Int) (by omega) (by omega) (by omega) rfl T.out).mono ?_
                  rintro e w3 ⟨⟨k, rfl⟩, D3⟩
                  have HD3 := Lib.hid D3
                  clear D3
                  go_wp2_with fail
                  go_roundw
                  case rel =>
                    refine ⟨t1.extract m t1.size, _, rfl, HD3.out, ?_, ?_⟩
                    · rw [← HA.out, HP.out, Lib.extract_to_end, List.append_assoc]
                    · have := enc_le (d : Int); rw [SZ1.out, List.length_append]; omega
                  case measure => show (t1.extract m t1.size).size < t.size; rw [SZ1.out]; omega
            | some x =>
              have X := Lib.hid (fun w => isHex_some (d : Int) w (by rw [hexZ_some hx]; omega))
              rw [hexZ_some hx] at X
              have hxl := hexv_lt hx
              rw [escB_hex _ hx] at HP
              clear hx
              refine (C2.out).mono ?_
              rintro e w2 ⟨rfl, D2⟩
              have HD2 := Lib.hid D2
              clear D2 C2
              go_upto_block 4 with (go_at_call 83; refine (X.out _).mono ?_; rintro e w' ⟨rfl, rfl⟩)
              obtain ⟨t2, ht2⟩ : ∃ t2, t2 = t1.extract m t1.size := ⟨_, rfl⟩
              rw [← ht2]
              have hl2 : t2.data.toList = t1.data.toList.drop m := by rw [ht2]; exact Lib.extract_to_end t1 m
              have hs2 : t2.size = t1.size - m := by rw [ht2]; exact SZ1.out
              rw [← hl2] at HP
              clear ht2 SZ1 hl2
              have hz4 : t2.size < t.size := by omega
              have hz5 : acc.length + 4 * t2.size + 4 ≤ 4 * s.size := by omega
              clear hs2
              obtain ⟨V, R, hrun⟩ : ∃ V R, hexRunB 5 x t2.data.toList = (V, R) := ⟨_, _, rfl⟩
              have hRl := hexRunB_len 5 x t2.data.toList
              rw [hrun] at HP hRl
              rw [toList_size'] at hRl
              dsimp only at hRl
              have RUN := Lib.hid hrun
              have HP := Lib.hid HP.out
              clear hrun X
              go_cut [0, 8] (fun inner hex wx => ∃ t3 : ByteArray, inner = .string t3 ∧ hex = .int .i64 (V : Int) ∧ t3.data.toList = R ∧ DSt w0.heap.size acc w0 wx)
              case first =>
                go_wp2_with fail
                go_loopw [0, 8, 10] (fun inner hex i wx => HexRel w0.heap.size acc w0 V R inner hex i wx) (fun _ _ i _ => 5 - (intOf i).toNat)
                case atStart => exact ⟨t2, x, 0, by omega, rfl, rfl, rfl, RUN.out, by omega, HD2.out⟩
                case round =>
                  obtain ⟨t3, v, j, hj, rfl, rfl, rfl, hrun, hv, hD⟩ := hrel
                  have HD3 := Lib.hid hD
                  clear hD
                  by_cases hj5 : j = 5
                  · subst hj5
                    obtain ⟨rfl, rfl⟩ := Prod.mk.injEq .. ▸ (show (v, t3.data.toList) = (V, R) from hrun)
                    clear hrun
                    go_wp2_with fail
                    go_meet
                    exact ⟨t3, rfl, rfl, rfl, HD3.out⟩
                  · obtain ⟨q, hq⟩ : ∃ q, 5 - j = q + 1 := ⟨4 - j, by omega⟩
                    rw [hq] at hrun
                    have hjq : 5 - (j + 1) = q := by omega
                    by_cases h0 : t3.size = 0
                    · rw [hexRunB_nil _ _ (list_nil h0)] at hrun
                      obtain ⟨rfl, rfl⟩ := Prod.mk.injEq .. ▸ hrun
                      clear hrun hq hjq
                      go_wp2_with fail
                      go_meet
                      exact ⟨t3, rfl, rfl, rfl, HD3.out⟩
                    · have htn3 := list_ne h0
                      obtain ⟨e0, kk, hdec3⟩ : ∃ e0 kk, Lib.decodeL t3.data.toList = (e0, kk) := ⟨_, _, rfl⟩
                      have hk2 := Lib.decodeL_le t3.data.toList htn3
                      rw [hdec3, toList_size'] at hk2
                      dsimp only at hk2
                      have C3 := Lib.hid (dRune HD3.out t3 e0 kk (by rw [decG_of htn3, hdec3]))
                      have h5 : (j : Int) < 5 := by omega
                      cases hx3 : hexv e0 with
                      | none =>
                        rw [hexRunB_none htn3 hdec3 hx3] at hrun
                        have X3 := Lib.hid (fun w => isHex_none (e0 : Int) w (hexZ_none hx3))
                        obtain ⟨rfl, rfl⟩ := Prod.mk.injEq .. ▸ hrun
                        clear hrun hq hjq hx3 hdec3 htn3
                        go_wp2_with fail
                        refine (C3.out).mono ?_
                        rintro e w4 ⟨rfl, D4⟩
                        have HD4 := Lib.hid D4
                        clear D4 C3
                        go_wp2_with (go_at_call 83; refine (X3.out _).mono ?_; rintro e w' ⟨rfl, rfl⟩)
                        go_meet
                        exact ⟨t3, rfl, rfl, rfl, HD4.out⟩
                      | some y =>
                        rw [hexRunB_some htn3 hdec3 hx3] at hrun
                        have X3 := Lib.hid (fun w => isHex_some (e0 : Int) w (by rw [hexZ_some hx3]; omega))
                        rw [hexZ_some hx3] at X3
                        have hy := hexv_lt hx3
                        have hp : 16 ^ (j + 1) ≤ 16 ^ 5 := Nat.pow_le_pow_right (by omega) (by omega)
                        have hp2 : 16 ^ (j + 1 + 1) = 16 ^ (j + 1) * 16 := Nat.pow_succ ..
                        have hv6 : v * 16 + y < 16 ^ (j + 1 + 1) := by omega
                        have hv5 : v ≤ 1048575 := by omega
                        have HV := Lib.hid hv6
                        have RUN4 := Lib.hid hrun
                        have JQ := Lib.hid hjq
                        have SZ3 := Lib.hid (tail_size t3 kk)
                        clear hrun hq hjq hx3 hdec3 htn3 hp hp2 hv6 hv
                        go_wp2_with fail
                        refine (C3.out).mono ?_
                        rintro e w4 ⟨rfl, D4⟩
                        have HD4 := Lib.hid D4
                        clear D4 C3
                        go_wp2_with (go_at_call 83; refine (X3.out _).mono ?_; rintro e w' ⟨rfl, rfl⟩)
                        go_roundw
                        case rel => exact ⟨t3.extract kk t3.size, v * 16 + y, j + 1, by omega, rfl, by go_num, by go_num, by rw [JQ.out, Lib.extract_to_end]; exact RUN4.out, HV.out, HD4.out⟩
                        case measure => simp [intOf]; omega
              case rest =>
                obtain ⟨t3, rfl, rfl, hR, hD⟩ := hcut
                have HD3 := Lib.hid hD
                have HR := Lib.hid hR
                have hz6 : t3.size ≤ t2.size := by rw [← toList_size' t3, hR]; exact hRl
                clear hD hR
                go_upto_if 126 with fail
                go_cut [0] (fun inner wx => ∃ t4 : ByteArray, inner = .string t4 ∧ t4.data.toList = dropWsB R ∧ t4.size ≤ t3.size ∧ DSt w0.heap.size acc w0 wx)
                case first =>
                  by_cases h0 : t3.size = 0
                  · go_wp2_with fail
                    go_meet
                    refine ⟨t3, rfl, ?_, Nat.le_refl _, HD3.out⟩
                    rw [← HR.out, list_nil h0]; rfl
                  · have htn3 := list_ne h0
                    obtain ⟨e0, kk, hdec3⟩ : ∃ e0 kk, Lib.decodeL t3.data.toList = (e0, kk) := ⟨_, _, rfl⟩
                    have hk2 := Lib.decodeL_le t3.data.toList htn3
                    rw [hdec3, toList_size'] at hk2
                    dsimp only at hk2
                    have C3 := Lib.hid (dRune HD3.out t3 e0 kk (by rw [decG_of htn3, hdec3]))
                    have X3 := Lib.hid (fun w => lexSpace (e0 : Int) w)
                    rw [sp_nat] at X3
                    have hws : dropWsB R = if isWs e0 = true then t3.data.toList.drop kk else t3.data.toList := by
                      rw [← HR.out]; unfold dropWsB
                      by_cases hh : isWs e0 = true
                      · rw [if_pos hh, if_pos ⟨htn3, by rw [hdec3]; exact hh⟩, hdec3]
                      · rw [if_neg hh, if_neg (by rw [hdec3]; exact fun h => hh h.2)]
                    have SZ3 := Lib.hid (tail_size t3 kk)
                    have WS := Lib.hid hws
                    clear hws hdec3 htn3
                    generalize isWs e0 = b at X3 WS
                    cases b
                    · go_wp2_with fail
                      refine (C3.out).mono ?_
                      rintro e w4 ⟨rfl, D4⟩
                      have HD4 := Lib.hid D4
                      clear D4 C3
                      go_wp2_with (go_at_call 62; refine (X3.out _).mono ?_; rintro e w' ⟨rfl, rfl⟩)
                      go_meet
                      exact ⟨t3, rfl, by rw [WS.out]; rfl, Nat.le_refl _, HD4.out⟩
                    · go_wp2_with fail
                      refine (C3.out).mono ?_
                      rintro e w4 ⟨rfl, D4⟩
                      have HD4 := Lib.hid D4
                      clear D4 C3
                      go_wp2_with (go_at_call 62; refine (X3.out _).mono ?_; rintro e w' ⟨rfl, rfl⟩)
                      go_meet
                      exact ⟨t3.extract kk t3.size, rfl, by rw [WS.out, Lib.extract_to_end]; rfl, by rw [SZ3.out]; omega, HD4.out⟩
                case rest =>
                  obtain ⟨t4, rfl, hR4, hz7, hD⟩ := hcut
                  have HD4 := Lib.hid hD
                  have HR4 := Lib.hid hR4
                  clear hD hR4
                  by_cases hV0 : V = 0
                  · subst hV0
                    go_wp2_with fail
                    refine (dWrite HD4.out 65533 (by omega) (by omega) (by omega) rfl T.out).mono ?_
                    rintro e w5 ⟨⟨k, rfl⟩, D5⟩
                    have HD5 := Lib.hid D5
                    clear D5
                    go_wp2_with fail
                    go_roundw
                    case rel =>
                      refine ⟨t4, _, rfl, HD5.out, ?_, ?_⟩
                      · rw [← HA.out, HP.out, HR4.out, show fix 0 = 65533 from rfl, List.append_assoc]; rfl
                      · have := enc_le 65533; rw [List.length_append]; omega
                    case measure => show t4.size < t.size; omega
                  · have t0 : ((V : Int) == 0) = false := beq_eq_false_iff_ne.2 (by omega)
                    have W0 := Lib.hid hV0
                    clear hV0
                    rcases (by omega : (55296 ≤ V ∧ V ≤ 57343) ∨ 1114111 < V ∨ V < 55296 ∨ (57344 ≤ V ∧ V ≤ 1114111)) with hV | hV | hV | hV
                    · have s1 : 55295 < (V : Int) := by omega
                      have s2 : ¬ 57343 < (V : Int) := by omega
                      have FX := Lib.hid (show fix V = 65533 by unfold fix; rw [if_pos (.inr (.inl hV))])
                      clear hV
                      go_wp2_with fail
                      refine (dWrite HD4.out 65533 (by omega) (by omega) (by omega) rfl T.out).mono ?_
                      rintro e w5 ⟨⟨k, rfl⟩, D5⟩
                      have HD5 := Lib.hid D5
                      clear D5
                      go_wp2_with fail
                      go_roundw
                      case rel =>
                        refine ⟨t4, _, rfl, HD5.out, ?_, ?_⟩
                        · rw [← HA.out, HP.out, HR4.out, FX.out, List.append_assoc]; rfl
                        · have := enc_le 65533; rw [List.length_append]; omega
                      case measure => show t4.size < t.size; omega
                    · have s1 : 1114111 < (V : Int) := by omega
                      have FX := Lib.hid (show fix V = 65533 by unfold fix; rw [if_pos (.inr (.inr hV))])
                      clear hV
                      go_wp2_with fail
                      refine (dWrite HD4.out 65533 (by omega) (by omega) (by omega) rfl T.out).mono ?_
                      rintro e w5 ⟨⟨k, rfl⟩, D5⟩
                      have HD5 := Lib.hid D5
                      clear D5
                      go_wp2_with fail
                      go_roundw
                      case rel =>
                        refine ⟨t4, _, rfl, HD5.out, ?_, ?_⟩
                        · rw [← HA.out, HP.out, HR4.out, FX.out, List.append_assoc]; rfl
                        · have := enc_le 65533; rw [List.length_append]; omega
                      case measure => show t4.size < t.size; omega
                    · have s1 : (V : Int) < 55296 := by omega
                      have FX := Lib.hid (show fix V = V by unfold fix; rw [if_neg (by have := W0.out; omega)])
                      clear hV
                      go_wp2_with fail
                      refine (dWrite HD4.out (V : Int) (by omega) (by omega) (by omega) rfl T.out).mono ?_
                      rintro e w5 ⟨⟨k, rfl⟩, D5⟩
                      have HD5 := Lib.hid D5
                      clear D5
                      go_wp2_with fail
                      go_roundw
                      case rel =>
                        refine ⟨t4, _, rfl, HD5.out, ?_, ?_⟩
                        · rw [← HA.out, HP.out, HR4.out, FX.out, List.append_assoc]
                        · have := enc_le (V : Int); rw [List.length_append]; omega
                      case measure => show t4.size < t.size; omega
                    · have s1 : 57343 < (V : Int) := by omega
                      have s2 : (V : Int) ≤ 1114111 := by omega
                      have FX := Lib.hid (show fix V = V by unfold fix; rw [if_neg (by omega)])
                      clear hV
                      go_wp2_with fail
                      refine (dWrite HD4.out (V : Int) (by omega) (by omega) (by omega) rfl T.out).mono ?_
                      rintro e w5 ⟨⟨k, rfl⟩, D5⟩
                      have HD5 := Lib.hid D5
                      clear D5
                      go_wp2_with fail
                      go_roundw
                      case rel =>
                        refine ⟨t4, _, rfl, HD5.out, ?_, ?_⟩
                        · rw [← HA.out, HP.out, HR4.out, FX.out, List.append_assoc]
                        · have := enc_le (V : Int); rw [List.length_append]; omega
                      case measure => show t4.size < t.size; omega
        · have HP := Lib.hid (decL_plain TN.out DEC.out h92)
          have t92 : ((c : Int) != 92) = true := by rw [bne_iff_ne]; omega
          clear h92
          by_cases h0 : c = 0
          · subst h0
            go_wp2_with fail
            refine (C1.out).mono ?_
            rintro e w1 ⟨rfl, D1⟩
            have HD1 := Lib.hid D1
            clear D1
            go_wp2_with fail
            refine (dWrite HD1.out 65533 (by omega) (by omega) (by omega) rfl T.out).mono ?_
            rintro e w2 ⟨⟨k, rfl⟩, D2⟩
            have HD2 := Lib.hid D2
            clear D2
            go_wp2_with fail
            go_roundw
            case rel =>
              refine ⟨t.extract n t.size, _, rfl, HD2.out, ?_, ?_⟩
              · rw [← HA.out, HP.out, Lib.extract_to_end, List.append_assoc]; rfl
              · have := enc_le 65533; rw [SZ.out, List.length_append]; omega
            case measure => show (t.extract n t.size).size < t.size; rw [SZ.out]; omega
          · have t0 : ((c : Int) == 0) = false := beq_eq_false_iff_ne.2 (by omega)
            rw [if_neg h0] at HP
            clear h0
            go_wp2_with fail
            refine (C1.out).mono ?_
            rintro e w1 ⟨rfl, D1⟩
            have HD1 := Lib.hid D1
            clear D1
            go_wp2_with fail
            refine (dWrite HD1.out (c : Int) (by omega) (by omega) (by omega) rfl T.out).mono ?_
            rintro e w2 ⟨⟨k, rfl⟩, D2⟩
            have HD2 := Lib.hid D2
            clear D2
            go_wp2_with fail
            go_roundw
            case rel =>
              refine ⟨t.extract n t.size, _, rfl, HD2.out, ?_, ?_⟩
              · rw [← HA.out, HP.out, Lib.extract_to_end, List.append_assoc]
              · have := enc_le (c : Int); rw [SZ.out, List.length_append]; omega
            case measure => show (t.extract n t.size).size < t.size; rw [SZ.out]; omega

/-- **decodeEscapesInToken.** -/
theorem decodeIn (s : ByteArray) (w : World) (hs : s.size ≤ 1099511627776) (hT : Lib.Utf8Tabs 0 1 w) :
    Calls Tryz.prog 61 #[.string s] w fun e w' => e = .returned (.string ⟨(decodeB s.data.toList).toArray⟩) ∧ Below w.heap.size w w' := by
  unfold decodeB
  by_cases h : s.data.toList.all clean = true
  · rw [if_pos h]
    exact (decode_clean s w hs h).mono fun _ _ ⟨he, hw⟩ => ⟨he, by rw [hw]; exact Below.refl _ _⟩
  · rw [if_neg h]
    have hl : (s.data.toList.dropWhile clean).length ≤ s.data.toList.length := (List.dropWhile_suffix clean).length_le
    rw [decB_more _ _ _ hl (Nat.le_refl _)]
    exact decode_dirty s w hs h hT
end Go.Proofs.YtmgkccnfhkcncaaGreatDoor
