/-
  logger: CommentTextWithoutIndent: it hands back some text, and leaves the blocks that stood as they stood.
-/
import Derived.Test.YtmgkccnfhkcncaaGreatDoorLoop
import Derived.Test.YtmgkccnfhkcncaaGreatDoorLgD
import Derived.Deep.AppendLies
import Derived.Deep.DeepCutAuto
import Derived.Deep.CutBlock
import Derived.BigQuiet
import Derived.Lib.TrimUEq
import Derived.Lib.Join
namespace Go.Proofs.YtmgkccnfhkcncaaGreatDoor
open Go.RowKit
attribute [local go_sem ↓] Go.wp_at_zero Go.wp_at_succ

theorem rw_dec (s : ByteArray) (pos : Nat) (h : pos < s.size) : ∃ c d : Nat, Utf8.decode s pos = (c, d) ∧ 1 ≤ d ∧ pos + d ≤ s.size ∧ (c = 8232 ∨ c = 8233 → d = 3) ∧ (c < 128 → d = 1 ∧ s[pos].toNat = c) := by
  have e := Lib.decodeL_drop s pos
  have hne : s.data.toList.drop pos ≠ [] := by
    intro h2
    have := congrArg List.length h2
    rw [List.length_drop] at this
    have e2 : s.data.toList.length = s.size := rfl
    simp only [List.length_nil] at this
    omega
  have hw := Lib.decodeL_width (s.data.toList.drop pos)
  have hl := Lib.decodeL_le (s.data.toList.drop pos) hne
  rw [List.length_drop, show s.data.toList.length = s.size from rfl] at hl
  refine ⟨(Utf8.decode s pos).1, (Utf8.decode s pos).2, rfl, ?_, ?_, ?_, ?_⟩
  · rw [← e]; exact hw
  · rw [← e]; omega
  · intro hc
    rw [← e] at hc ⊢
    have := Lib.runeLen_decode (s.data.toList.drop pos) (by omega)
    rcases hc with hc | hc
    · rw [hc] at this
      have h3 : Lib.runeLen ((8232 : Nat) : Int) = 3 := by decide
      omega
    · rw [hc] at this
      have h3 : Lib.runeLen ((8233 : Nat) : Int) = 3 := by decide
      omega
  · intro hc
    rw [← e] at hc ⊢
    have hh : hdB (s.data.toList.drop pos) = ((Lib.decodeL (s.data.toList.drop pos)).1 : Int) := hdB_cons hne
    obtain ⟨x, t, h1, h2, h3, h4⟩ := hdB_low hh hc
    have h5 : s[pos] = x := by
      have h6 : (s.data.toList.drop pos)[0]? = some x := by rw [h1]; rfl
      rw [List.getElem?_drop, Nat.add_zero] at h6
      have h7 : s.data.toList[pos]? = some s[pos] := List.getElem?_eq_getElem (by exact h)
      rw [h7] at h6
      exact Option.some.inj h6
    refine ⟨?_, by rw [h5]; exact h2⟩
    rw [h1] at h4 ⊢
    unfold widB decG at h4
    rwa [if_neg (by simp)] at h4
theorem rw_ascii (s : ByteArray) (pos : Nat) (h : pos < s.size) (ha : s[pos].toNat = 10) : Utf8.decode s pos = (10, 1) := by
  rw [decode_ascii s pos h (by omega), ha]

theorem infoStr : (Tryz.prog.info? 9).map (fun i => (i.zero, i.size, i.bytes)) = some (some (.string ⟨#[]⟩), 1, 16) := by kernel_rfl
theorem row_ne_iter {w : World} {base : Nat} {e : TypeId} {size : Nat} {v : Value} {n : Nat} {xs : List Value} (h : w.ownsRow base e size v n xs) {K pos : Nat} {s : ByteArray} (hk : w.heap[K]? = some (.stringIter s pos)) : some K ≠ v.ownBlock := by
  rintro e1
  rcases h.2 with ⟨rfl, _⟩ | ⟨g, cap, cur, rfl, hg, hgg, _⟩
  · cases e1
  · injection e1 with e1
    have e2 : K = g := e1
    subst e2
    rw [hk] at hgg
    cases hgg
theorem row_iterAt {w : World} {base : Nat} {e : TypeId} {size : Nat} {v : Value} {n : Nat} {xs : List Value} (h : w.ownsRow base e size v n xs) {K pos : Nat} {s : ByteArray} (hk : w.heap[K]? = some (.stringIter s pos)) (p : Nat) : (w.iterAt K s p).ownsRow base e size v n xs := by
  have hne := row_ne_iter h hk
  refine ⟨h.1, ?_⟩
  rcases h.2 with hn | ⟨g, cap, cur, rfl, hg, hgg, rest⟩
  · exact .inl hn
  · refine .inr ⟨g, cap, cur, rfl, hg, ?_, rest⟩
    have : K ≠ g := fun e => hne (by rw [e]; rfl)
    simp only [World.iterAt, Array.getElem?_setIfInBounds_ne this]
    exact hgg
/-- The sizes of texts, added up. -/
def sumZ (ls : List ByteArray) : Nat := (ls.map (·.size)).sum
theorem sumZ_app (ls : List ByteArray) (x : ByteArray) : sumZ (ls ++ [x]) = sumZ ls + x.size := by simp [sumZ]
theorem sumZ_mem {ls : List ByteArray} {j : Nat} {x : ByteArray} (h : ls[j]? = some x) : x.size ≤ sumZ ls := by
  induction ls generalizing j with
  | nil => simp at h
  | cons a t ih =>
    have e : sumZ (a :: t) = a.size + sumZ t := by simp [sumZ]
    cases j with
    | zero =>
      simp only [List.getElem?_cons_zero, Option.some.injEq] at h
      subst h; omega
    | succ j =>
      simp only [List.getElem?_cons_succ] at h
      have := ih h
      omega
theorem sumZ_set {ls : List ByteArray} {j : Nat} {x y : ByteArray} (h : ls[j]? = some x) (hy : y.size ≤ x.size) : sumZ (ls.set j y) ≤ sumZ ls := by
  induction ls generalizing j with
  | nil => simp at h
  | cons a t ih =>
    cases j with
    | zero =>
      simp only [List.getElem?_cons_zero, Option.some.injEq] at h
      subst h
      simp [sumZ]; omega
    | succ j =>
      simp only [List.getElem?_cons_succ] at h
      have := ih h
      simp [sumZ] at this ⊢; omega
theorem join_len (xs : List ByteArray) (sep : List UInt8) : (Lib.join (xs.map (·.data.toList)) sep).length ≤ sumZ xs + xs.length * sep.length := by
  cases xs with
  | nil => simp [Lib.join_nil]
  | cons a t =>
    rw [List.map_cons, Lib.join_cons, List.length_append]
    have : (Lib.joinTail sep (t.map (·.data.toList))).length = sumZ t + t.length * sep.length := by
      unfold Lib.joinTail
      induction t with
      | nil => simp [sumZ]
      | cons b u ih =>
        simp only [List.map_cons, List.flatten_cons, List.length_append, ih]
        have : b.data.toList.length = b.size := rfl
        have e : sumZ (b :: u) = b.size + sumZ u := by simp [sumZ]
        rw [e, List.length_cons, Nat.succ_mul, this]
        omega
    have e : sumZ (a :: t) = a.size + sumZ t := by simp [sumZ]
    have e2 : a.data.toList.length = a.size := rfl
    rw [this, e, e2, List.length_cons, Nat.succ_mul]
    omega
/-- The loop over the lines of a comment: the lines, where the last one begins. -/
def L2R (base K : Nat) (tx : ByteArray) (w : World) (lv sv : Value) (wr : World) : Prop :=
  ∃ (ls : List ByteArray) (st pos : Nat), sv = .int .i64 (st : Int) ∧ wr.ownsRow base 9 1 lv ls.length (ls.map Value.string) ∧ wr.heap[K]? = some (.stringIter tx pos) ∧ pos ≤ tx.size ∧ (st ≤ pos ∨ (st = pos + 1 ∧ ∃ h : pos < tx.size, tx[pos].toNat = 10)) ∧ sumZ ls ≤ st ∧ ls.length ≤ pos ∧ Below base w wr
theorem l2_app {base K g6 cap st pos : Nat} {tx line : ByteArray} {w w5 w6 : World} {lv : Value} {ls : List ByteArray} {o : Obj} (hown : w6.ownsRow base 9 1 (.slice (some ⟨g6, 0, none⟩) (ls.length + 1) cap) (ls.length + 1) (ls.map Value.string ++ [.string line])) (hg : (w5.alloc o).grownBy w6 lv.ownBlock) (hrow : w5.ownsRow base 9 1 lv ls.length (ls.map Value.string)) (hk : w5.heap[K]? = some (.stringIter tx pos)) (hB : Below base w w5) (hbs : base ≤ w5.heap.size)
    (hp : pos ≤ tx.size) (hst : st ≤ pos ∨ (st = pos + 1 ∧ ∃ h : pos < tx.size, tx[pos].toNat = 10)) (hs : sumZ ls + line.size ≤ st) (hl : ls.length + 1 ≤ pos) : L2R base K tx w (.slice (some ⟨g6, 0, none⟩) (ls.length + 1) cap) (.int .i64 (st : Int)) w6 := by
  refine ⟨ls ++ [line], st, pos, rfl, ?_, ?_, hp, hst, by rw [sumZ_app]; exact hs, by simpa using hl, ?_⟩
  · simpa using hown
  · exact (hg.block K (by have := (Array.getElem?_eq_some_iff.1 hk).1; simp; omega) (row_ne_iter hrow hk)).trans ((Below.heap_alloc _ _ _ (Array.getElem?_eq_some_iff.1 hk).1).trans hk)
  · exact (hB.alloc hbs _).grown hg (by simp; omega) fun k hk => (hrow.lt k hk).1

theorem row_cap {w : World} {base g cap n : Nat} {e : TypeId} {size : Nat} {xs : List Value} (h : w.ownsRow base e size (.slice (some ⟨g, 0, none⟩) n cap) n xs) : n ≤ cap := by
  rcases h.2 with ⟨h1, _⟩ | ⟨g', cap', cur, h1, _, _, h2, _⟩
  · cases h1
  · injection h1 with _ _ h3
    omega
theorem row_heap' {w w' : World} {base g cap n : Nat} {e : TypeId} {size : Nat} {xs : List Value} (h : w.ownsRow base e size (.slice (some ⟨g, 0, none⟩) n cap) n xs) (hb : Below w.heap.size w w') : w'.ownsRow base e size (.slice (some ⟨g, 0, none⟩) n cap) n xs :=
  row_heap h fun k _ hk => hb.block k hk
/-- The loop that trims the lines: j of them are done. -/
def L5R (base g cap N : Nat) (LS : List ByteArray) (w : World) (j : Nat) (wr : World) : Prop :=
  ∃ L : List ByteArray, L.length = N ∧ wr.ownsRow base 9 1 (.slice (some ⟨g, 0, none⟩) N cap) N (L.map Value.string) ∧ (∀ m, j ≤ m → L[m]? = LS[m]?) ∧ sumZ L ≤ sumZ LS ∧ Below base w wr
theorem l5_set {base g cap N j : Nat} {LS L : List ByteArray} {x y : ByteArray} {w wr : World} (hn : L.length = N) (hr : wr.ownsRow base 9 1 (.slice (some ⟨g, 0, none⟩) N cap) N (L.map Value.string)) (he : ∀ m, j ≤ m → L[m]? = LS[m]?) (hz : sumZ L ≤ sumZ LS) (hb : Below base w wr) (hx : L[j]? = some x) (hy : y.size ≤ x.size) :
    L5R base g cap N LS w (j + 1) (wr.setCell ⟨g, j, none⟩ (.string y)) := by
  refine ⟨L.set j y, by rw [List.length_set]; exact hn, ?_, fun m hm => ?_, Nat.le_trans (sumZ_set hx hy) hz, hb.setCell (p := ⟨g, j, none⟩) (own_base hr rfl).1 _⟩
  · rw [List.map_set]
    exact (hr.stored j (.string y)).1
  · rw [List.getElem?_set_ne (by omega)]
    exact he m (by omega)
theorem lines_row {w6 : World} {base g6 cap N : Nat} {ls LS : List ByteArray} {line : ByteArray} (h : w6.ownsRow base 9 1 (.slice (some ⟨g6, 0, none⟩) (ls.length + 1) cap) (ls.length + 1) (ls.map Value.string ++ [.string line])) (hN : ls.length + 1 = N) (hL : ls ++ [line] = LS) :
    w6.ownsRow base 9 1 (.slice (some ⟨g6, 0, none⟩) N cap) N (LS.map Value.string) := by
  subst hN; subst hL
  simpa using h
set_option maxHeartbeats 8000000 in
set_option maxRecDepth 1000000 in
theorem cwiI (b : Nat) (P : Nat → Option Value) (s : ByteArray) (n cur cp st ln uo kd fl : Int) (a e : Nat) (w : World) (hTB : TB b w) (hP : P 10 = some (.string s)) (hL : LB b P n cur cp st ln uo kd fl w) (hs : s.size ≤ 1073741824) (hae : a ≤ e) (hes : e ≤ s.size) :
    Calls Tryz.prog 118 #[.pointer (some ⟨b, 7, none⟩), .agg #[.int .i32 (a : Int), .int .i32 ((e : Int) - a)]] w fun x w' => (∃ t, x = .returned (.string t)) ∧ Below w.heap.size w w' := by
  have HPX := Lib.hid (fun s p w => hasPrefE s p w)
  have E := Lib.hid (fun w => rangeEndI a e w hae (by omega))
  have hlt := hL.lt
  have c10 : w.cell? ⟨b, 10, none⟩ = some (.string s) := (hL.p 10 (by omega)).trans hP
  have HT := Lib.hid hTB
  have i0 : (0 : Int) ≤ (a : Int) := by omega
  have i1 : (a : Int) ≤ (e : Int) := by omega
  have i2 : (e : Int) ≤ (s.size : Int) := by omega
  obtain ⟨B, hB⟩ : ∃ B, w.heap.size = B := ⟨_, rfl⟩
  have HBW := Lib.hid hB
  clear hTB hP hL hB
  go_enter Tryz.func118, Tryz.ntmps118
  go_upto_region 1 with fail
  obtain ⟨R, hR⟩ : ∃ R, w.heap.size = R := ⟨_, rfl⟩
  obtain ⟨w1, hw1⟩ : ∃ x, w.alloc (.cells #[.int .i32 (a : Int), .int .i32 ((e : Int) - a)] 55) = x := ⟨_, rfl⟩
  have B1 := Lib.hid (show Below w.heap.size w w1 by rw [← hw1]; exact (Below.refl _ _).alloc (Nat.le_refl _) _)
  have KR := Lib.hid (show w1.heap[R]? = some (.cells #[.int .i32 (a : Int), .int .i32 ((e : Int) - a)] 55 (0, 0)) by rw [← hw1, ← hR]; exact heap_alloc_new w _)
  rw [hw1, hR]
  clear hw1 hR
  have d10 := (B1.out.cell (p := ⟨b, 10, none⟩) hlt).trans c10
  have r0 : w1.cell? ⟨R, 0, none⟩ = some (.int .i32 (a : Int)) := by rw [Lib.cell_of_heap KR.out]; rfl
  have r1 : w1.cell? ⟨R, 1, none⟩ = some (.int .i32 ((e : Int) - a)) := by rw [Lib.cell_of_heap KR.out]; rfl
  have zR := (Array.getElem?_eq_some_iff.1 KR.out).1
  have zb : b < w1.heap.size := Nat.lt_of_lt_of_le hlt B1.out.size
  clear c10
  go_step3
  go_wp2_with fail
  go_region_held3 (fun w' => w'.cell? ⟨b, 10, none⟩ = some (.string s) ∧ w'.cell? ⟨R, 0, none⟩ = some (.int .i32 (a : Int)) ∧ w'.cell? ⟨R, 1, none⟩ = some (.int .i32 ((e : Int) - a))) (go_keep)
    ((go_at_call 35; refine (E.out _).mono ?_; rintro x w2 ⟨rfl, hb2⟩; have j0 := (hb2.cell (p := ⟨b, 10, none⟩) zb).trans d10; have j1 := (hb2.cell (p := ⟨R, 0, none⟩) zR).trans r0; have j2 := (hb2.cell (p := ⟨R, 1, none⟩) zR).trans r1))
  have B2 := Lib.hid (B1.out.trans ((below_undrew hb2).mono B1.out.size))
  obtain ⟨tx, htx⟩ : ∃ x, s.extract a e = x := ⟨_, rfl⟩
  have htz : tx.size ≤ s.size := by rw [← htx]; simp only [ByteArray.size_extract]; omega
  clear hb2 d10 r0 r1
  go_upto_region 2 with fail
  rw [htx]
  clear htx
  by_cases g1 : tx.size < 2
  · have g1' : (tx.size : Int) < 2 := by omega
    go_wp2_with fail
    rw [Exit.noGoto_ret]
    go_ret
    exact ⟨⟨_, rfl⟩, B2.out⟩
  have g1' : ¬ (tx.size : Int) < 2 := by omega
  go_wp2_with fail
  refine (HPX.out _ _ _).mono ?_
  rintro x w2' ⟨r, rfl, hww⟩
  obtain rfl : _ = w2' := hww
  cases r
  · go_wp2_with fail
    rw [Exit.noGoto_ret]
    go_ret
    exact ⟨⟨_, rfl⟩, B2.out⟩
  go_wp2_with fail
  go_region
  obtain ⟨w3, hw3⟩ : ∃ x, w2.drew = x := ⟨_, rfl⟩
  have B3 := Lib.hid (show Below w.heap.size w w3 by rw [← hw3]; exact Below.drew B2.out)
  obtain ⟨pf, hpf⟩ : ∃ x, s.extract 0 a = x := ⟨_, rfl⟩
  have hpz : pf.size ≤ s.size := by rw [← hpf]; simp only [ByteArray.size_extract]; omega
  rw [hw3]
  clear hw3 j0 j1 j2
  have DL := Lib.hid (fun p w hs hT => Tryz.utf8_DecodeLastRuneInString p w hs hT)
  go_wp2_with fail
  rw [hpf]
  clear hpf
  go_step3
  go_upto_block 0 with fail
  go_cut [7] (fun iv wx => ∃ i : Nat, iv = .int .i64 (i : Int) ∧ i ≤ 1073741824 ∧ Below w3.heap.size w3 wx)
  case first =>
    go_wp2_with fail
    go_loopw [6, 7] (fun pv iv wr => ∃ (p : ByteArray) (i : Nat), pv = .string p ∧ iv = .int .i64 (i : Int) ∧ p.size + i ≤ pf.size ∧ Below w3.heap.size w3 wr) (fun pv _ _ => strSize pv)
    case atStart => exact ⟨pf, 0, rfl, rfl, by omega, Below.refl _ _⟩
    case round =>
      obtain ⟨p, i, rfl, rfl, hpi, hb⟩ := hrel
      have HB := Lib.hid hb
      clear hb
      by_cases g2 : p.size = 0
      · have g2' : ¬ (0 : Int) < (p.size : Int) := by omega
        go_wp2_with fail
        go_meet
        exact ⟨i, rfl, by omega, HB.out⟩
      · have g2' : (0 : Int) < (p.size : Int) := by omega
        have hdw := Lib.decodeLastL_width p.data.toList (by show 0 < p.size; omega)
        rw [show p.data.toList.length = p.size from rfl] at hdw
        have DP := Lib.hid (DL.out p wr (by omega) (HT.out.tabs |> fun h => Utf8Tabs_below h (B3.out.trans (HB.out.mono B3.out.size))))
        obtain ⟨c, hc⟩ : ∃ c, (Lib.decodeLastL p.data.toList).1 = c := ⟨_, rfl⟩
        obtain ⟨d, hd⟩ : ∃ d, (Lib.decodeLastL p.data.toList).2 = d := ⟨_, rfl⟩
        rw [hc, hd] at DP
        rw [hd] at hdw
        clear hc hd g2
        go_wp2_with fail
        refine (DP.out).mono ?_
        rintro x w4 ⟨rfl, hb4⟩
        have B4 := Lib.hid (HB.out.trans (hb4.mono HB.out.size))
        clear hb4
        by_cases g3 : c = 13 ∨ c = 10 ∨ c = 8232 ∨ c = 8233
        · rcases g3 with rfl | rfl | rfl | rfl
          all_goals
            go_wp2_with fail
            go_meet
            exact ⟨i, rfl, by omega, B4.out⟩
        · have t1 : ((c : Int) == 13) = false := beq_eq_false_iff_ne.2 (by omega)
          have t2 : ((c : Int) == 10) = false := beq_eq_false_iff_ne.2 (by omega)
          have t3 : ((c : Int) == 8232) = false := beq_eq_false_iff_ne.2 (by omega)
          have t4 : ((c : Int) == 8233) = false := beq_eq_false_iff_ne.2 (by omega)
          have q0 : (0 : Int) ≤ (p.size : Int) - (d : Int) := by omega
          have q1 : (p.size : Int) - (d : Int) ≤ (p.size : Int) := by omega
          clear g3
          go_wp2_with fail
          go_roundw
          case rel => exact ⟨p.extract 0 (p.size - d), i + 1, by first | rfl | go_num, by go_num, by simp only [ByteArray.size_extract]; omega, B4.out⟩
          case measure => simp only [strSize, ByteArray.size_extract]; omega
  case rest =>
    obtain ⟨i, rfl, hib, hb⟩ := hcut
    have BW := Lib.hid (B3.out.trans (hb.mono B3.out.size))
    clear hb
    obtain ⟨i0, hi0, hz0, hz1, hz2⟩ := parts_of infoStr
    have hi := hi0
    clear hi0
    obtain ⟨K, hK⟩ : ∃ K, wc.heap.size = K := ⟨_, rfl⟩
    obtain ⟨w4, hw4⟩ : ∃ x, wc.iter tx 0 = x := ⟨_, rfl⟩
    have START := Lib.hid (show L2R w.heap.size K tx w (.slice none 0 0) (.int .i64 0) w4 from ⟨[], 0, 0, rfl, World.ownsRow_nil _ _ _ _, by rw [← hw4, ← hK]; exact World.iter_heap wc tx 0, Nat.zero_le _, .inl (Nat.le_refl _), Nat.le_refl _, Nat.le_refl _, by rw [← hw4]; exact BW.out.alloc BW.out.size _⟩)
    have hKw : w.heap.size ≤ K := by rw [← hK]; exact BW.out.size
    go_wp2_with fail
    clear hw4 hK
    go_loopw [10, 11] (fun lv sv wr => L2R w.heap.size K tx w lv sv wr) (fun _ _ wr => tx.size - wr.iterPos K)
    case atStart => exact START.out
    case round =>
      obtain ⟨ls, st, pos, rfl, hrow, hk, hp, hst, hsum, hlen, hb⟩ := hrel
      have ROW := Lib.hid hrow
      have HB := Lib.hid hb
      have HK := Lib.hid hk
      have HM := Lib.hid (it_pos hk)
      have HST := Lib.hid hst
      clear START hrow hb
      by_cases h : pos < tx.size
      · obtain ⟨c, d, hcd, hd1, hd2, hc3, hca⟩ := rw_dec tx pos h
        have hnx := fun ty => Lib.run_next_any_at (P := Tryz.prog) wr K tx pos ty hk h
        simp only [hcd] at hnx
        have HC10 := Lib.hid (show st = pos + 1 → c = 10 from fun e => by
          rcases HST.out with h1 | ⟨_, h2, h3⟩
          · omega
          · have := rw_ascii tx pos h h3
            rw [hcd] at this
            exact (Prod.mk.inj this).1)
        have hst1 : st ≤ pos + 1 := by rcases hst with h1 | ⟨h1, _⟩ <;> omega
        obtain ⟨w5, hw5⟩ : ∃ x, wr.iterAt K tx (pos + d) = x := ⟨_, rfl⟩
        have K5 := Lib.hid (show w5.heap[K]? = some (.stringIter tx (pos + d)) by rw [← hw5]; exact it_at HK.out (pos + d))
        have ROW5 := Lib.hid (show w5.ownsRow w.heap.size 9 1 _ ls.length (ls.map Value.string) by rw [← hw5]; exact row_iterAt ROW.out HK.out (pos + d))
        have B5 := Lib.hid (show Below w.heap.size w w5 by
          rw [← hw5]
          exact HB.out.trans ⟨rfl, rfl, rfl, by simp [World.iterAt], fun k hk' => by simp [World.iterAt, Array.getElem?_setIfInBounds_ne (show K ≠ k by omega)]⟩)
        have hb5 : w.heap.size ≤ w5.heap.size := B5.out.size
        simp only [hw5] at hnx
        clear hw5 hcd hk hst
        by_cases g3 : c = 13
        · subst g3
          obtain ⟨rfl, hxc⟩ := hca (by omega)
          have hsp : st ≤ pos := by
            rcases Nat.lt_or_ge pos st with h1 | h1
            · exact absurd (HC10.out (by omega)) (by decide)
            · exact h1
          have hsp' : (st : Int) ≤ (pos : Int) := by omega
          have hst0 : (0 : Int) ≤ (st : Int) := by omega
          have hpp : (pos : Int) ≤ (tx.size : Int) := by omega
          clear hc3 hca hxc
          by_cases g4 : pos + 1 < tx.size
          · have g4' : (pos : Int) + 1 < (tx.size : Int) := by omega
            have g40 : (0 : Int) ≤ (pos : Int) + 1 := by omega
            by_cases g5 : tx[pos + 1].toNat = 10
            · have t1 : ((tx[pos + 1].toNat : Int) == 10) = true := beq_iff_eq.2 (by omega)
              have G5 := Lib.hid g5
              clear g5
              go_wp2_with (at_builtin; refine wpList_append_lies _ rfl _ _ 174 rfl w.heap.size 9 i0 _ 1 16 Tryz.underlying174 hi hz0 hz1 hz2 rfl (by decide) _ ls.length (ls.map Value.string) rfl (ROW5.out.alloc _) ⟨w5.heap.size, 0, none⟩ 1 1 [.string (tx.extract st pos)] rfl rfl (World.news_of_block (heap_alloc_new w5 _)) (fun u hu => by simp at hu; subst hu; rfl) (by decide) (by unfold maxLen; omega) (by omega) (by simp; omega) (w5.heap.size + 1) (by simp) ?_; intro g6 cap w6 hown6 hgrow hat hlt6)
              go_roundw
              case rel => exact l2_app (st := pos + 1 + 1) hown6 hgrow ROW5.out K5.out B5.out hb5 (by omega) (.inr ⟨rfl, by omega, G5.out⟩) (by simp only [ByteArray.size_extract]; omega) (by omega)
              case measure =>
                have hk6 := (hgrow.block K (by have := (Array.getElem?_eq_some_iff.1 K5.out).1; simp; omega) (row_ne_iter ROW5.out K5.out)).trans ((Below.heap_alloc _ _ _ (Array.getElem?_eq_some_iff.1 K5.out).1).trans K5.out)
                rw [it_pos hk6, HM.out]; omega
            · have t1 : ((tx[pos + 1].toNat : Int) == 10) = false := beq_eq_false_iff_ne.2 (by omega)
              clear g5
              go_wp2_with (at_builtin; refine wpList_append_lies _ rfl _ _ 174 rfl w.heap.size 9 i0 _ 1 16 Tryz.underlying174 hi hz0 hz1 hz2 rfl (by decide) _ ls.length (ls.map Value.string) rfl (ROW5.out.alloc _) ⟨w5.heap.size, 0, none⟩ 1 1 [.string (tx.extract st pos)] rfl rfl (World.news_of_block (heap_alloc_new w5 _)) (fun u hu => by simp at hu; subst hu; rfl) (by decide) (by unfold maxLen; omega) (by omega) (by simp; omega) (w5.heap.size + 1) (by simp) ?_; intro g6 cap w6 hown6 hgrow hat hlt6)
              go_roundw
              case rel => exact l2_app (st := pos + 1) hown6 hgrow ROW5.out K5.out B5.out hb5 (by omega) (.inl (by omega)) (by simp only [ByteArray.size_extract]; omega) (by omega)
              case measure =>
                have hk6 := (hgrow.block K (by have := (Array.getElem?_eq_some_iff.1 K5.out).1; simp; omega) (row_ne_iter ROW5.out K5.out)).trans ((Below.heap_alloc _ _ _ (Array.getElem?_eq_some_iff.1 K5.out).1).trans K5.out)
                rw [it_pos hk6, HM.out]; omega
          · have g4' : ¬ (pos : Int) + 1 < (tx.size : Int) := by omega
            go_wp2_with (at_builtin; refine wpList_append_lies _ rfl _ _ 174 rfl w.heap.size 9 i0 _ 1 16 Tryz.underlying174 hi hz0 hz1 hz2 rfl (by decide) _ ls.length (ls.map Value.string) rfl (ROW5.out.alloc _) ⟨w5.heap.size, 0, none⟩ 1 1 [.string (tx.extract st pos)] rfl rfl (World.news_of_block (heap_alloc_new w5 _)) (fun u hu => by simp at hu; subst hu; rfl) (by decide) (by unfold maxLen; omega) (by omega) (by simp; omega) (w5.heap.size + 1) (by simp) ?_; intro g6 cap w6 hown6 hgrow hat hlt6)
            go_roundw
            case rel => exact l2_app (st := pos + 1) hown6 hgrow ROW5.out K5.out B5.out hb5 (by omega) (.inl (by omega)) (by simp only [ByteArray.size_extract]; omega) (by omega)
            case measure =>
              have hk6 := (hgrow.block K (by have := (Array.getElem?_eq_some_iff.1 K5.out).1; simp; omega) (row_ne_iter ROW5.out K5.out)).trans ((Below.heap_alloc _ _ _ (Array.getElem?_eq_some_iff.1 K5.out).1).trans K5.out)
              rw [it_pos hk6, HM.out]; omega
        · have t13 : ((c : Int) == 13) = false := beq_eq_false_iff_ne.2 (by omega)
          by_cases g6 : c = 10
          · subst g6
            obtain ⟨rfl, hxc⟩ := hca (by omega)
            clear hc3 hca hxc g3
            by_cases g7 : st ≤ pos
            · have hsp' : (st : Int) ≤ (pos : Int) := by omega
              have hst0 : (0 : Int) ≤ (st : Int) := by omega
              have hpp : (pos : Int) ≤ (tx.size : Int) := by omega
              go_wp2_with (at_builtin; refine wpList_append_lies _ rfl _ _ 174 rfl w.heap.size 9 i0 _ 1 16 Tryz.underlying174 hi hz0 hz1 hz2 rfl (by decide) _ ls.length (ls.map Value.string) rfl (ROW5.out.alloc _) ⟨w5.heap.size, 0, none⟩ 1 1 [.string (tx.extract st pos)] rfl rfl (World.news_of_block (heap_alloc_new w5 _)) (fun u hu => by simp at hu; subst hu; rfl) (by decide) (by unfold maxLen; omega) (by omega) (by simp; omega) (w5.heap.size + 1) (by simp) ?_; intro g6 cap w6 hown6 hgrow hat hlt6)
              go_roundw
              case rel => exact l2_app (st := pos + 1) hown6 hgrow ROW5.out K5.out B5.out hb5 (by omega) (.inl (by omega)) (by simp only [ByteArray.size_extract]; omega) (by omega)
              case measure =>
                have hk6 := (hgrow.block K (by have := (Array.getElem?_eq_some_iff.1 K5.out).1; simp; omega) (row_ne_iter ROW5.out K5.out)).trans ((Below.heap_alloc _ _ _ (Array.getElem?_eq_some_iff.1 K5.out).1).trans K5.out)
                rw [it_pos hk6, HM.out]; omega
            · have hsp' : ¬ (st : Int) ≤ (pos : Int) := by omega
              go_wp2_with fail
              go_roundw
              case rel => exact ⟨ls, pos + 1, _, by first | rfl | go_num, ROW5.out, K5.out, by omega, .inl (by omega), by omega, by omega, B5.out⟩
              case measure => rw [it_pos K5.out, HM.out]; omega
          · have t10 : ((c : Int) == 10) = false := beq_eq_false_iff_ne.2 (by omega)
            have hsp : st ≤ pos := by
              rcases Nat.lt_or_ge pos st with h1 | h1
              · exact absurd (HC10.out (by omega)) g6
              · exact h1
            have hsp' : (st : Int) ≤ (pos : Int) := by omega
            have hst0 : (0 : Int) ≤ (st : Int) := by omega
            have hpp : (pos : Int) ≤ (tx.size : Int) := by omega
            by_cases g8 : c = 8232 ∨ c = 8233
            · obtain rfl := hc3 g8
              clear hca hc3 g3 g6
              rcases g8 with rfl | rfl
              all_goals
                go_wp2_with (at_builtin; refine wpList_append_lies _ rfl _ _ 174 rfl w.heap.size 9 i0 _ 1 16 Tryz.underlying174 hi hz0 hz1 hz2 rfl (by decide) _ ls.length (ls.map Value.string) rfl (ROW5.out.alloc _) ⟨w5.heap.size, 0, none⟩ 1 1 [.string (tx.extract st pos)] rfl rfl (World.news_of_block (heap_alloc_new w5 _)) (fun u hu => by simp at hu; subst hu; rfl) (by decide) (by unfold maxLen; omega) (by omega) (by simp; omega) (w5.heap.size + 1) (by simp) ?_; intro g6 cap w6 hown6 hgrow hat hlt6)
                go_roundw
                case rel => exact l2_app (st := pos + 3) hown6 hgrow ROW5.out K5.out B5.out hb5 (by omega) (.inl (by omega)) (by simp only [ByteArray.size_extract]; omega) (by omega)
                case measure =>
                  have hk6 := (hgrow.block K (by have := (Array.getElem?_eq_some_iff.1 K5.out).1; simp; omega) (row_ne_iter ROW5.out K5.out)).trans ((Below.heap_alloc _ _ _ (Array.getElem?_eq_some_iff.1 K5.out).1).trans K5.out)
                  rw [it_pos hk6, HM.out]; omega
            · have t1 : ((c : Int) == 8232) = false := beq_eq_false_iff_ne.2 (by omega)
              have t2 : ((c : Int) == 8233) = false := beq_eq_false_iff_ne.2 (by omega)
              clear hca hc3 g3 g6 g8
              go_wp2_with fail
              go_roundw
              case rel => exact ⟨ls, st, _, by first | rfl | go_num, ROW5.out, K5.out, by omega, .inl (by omega), by omega, by omega, B5.out⟩
              case measure => rw [it_pos K5.out, HM.out]; omega
      · have hnx := fun ty => Lib.run_next_end_at (P := Tryz.prog) wr K tx pos ty hk h
        obtain rfl : pos = tx.size := by omega
        have hsz : st ≤ tx.size := by
          rcases hst with h1 | ⟨_, h2, _⟩
          · exact h1
          · omega
        clear hk hst
        obtain ⟨N, hN⟩ : ∃ N, ls.length + 1 = N := ⟨_, rfl⟩
        obtain ⟨LS, hLS⟩ : ∃ LS, ls ++ [tx.extract st tx.size] = LS := ⟨_, rfl⟩
        have hLN : LS.length = N := by rw [← hLS, ← hN]; simp
        have hLZ := Lib.hid (show sumZ LS ≤ tx.size by rw [← hLS, sumZ_app]; simp only [ByteArray.size_extract]; omega)
        have HNN := Lib.hid hN
        have HLS := Lib.hid hLS
        have hst0 : (0 : Int) ≤ (st : Int) := by omega
        have hst1 : (st : Int) ≤ (tx.size : Int) := by omega
        have hbr : w.heap.size ≤ wr.heap.size := HB.out.size
        have hNb : 1 ≤ N := by omega
        have hNz : N ≤ tx.size + 1 := by omega
        clear hN hLS
        go_upto_region 33 with (at_builtin; refine wpList_append_lies _ rfl _ _ 174 rfl w.heap.size 9 i0 _ 1 16 Tryz.underlying174 hi hz0 hz1 hz2 rfl (by decide) _ ls.length (ls.map Value.string) rfl (ROW.out.alloc _) ⟨wr.heap.size, 0, none⟩ 1 1 [.string (tx.extract st tx.size)] rfl rfl (World.news_of_block (heap_alloc_new wr _)) (fun u hu => by simp at hu; subst hu; rfl) (by decide) (by unfold maxLen; omega) (by omega) (by simp; omega) (wr.heap.size + 1) (by simp) ?_; intro g6 cap w6 hown6 hgrow hat hlt6; have B6 := Lib.hid ((HB.out.alloc hbr _).grown hgrow (by simp; omega) fun k hk => (ROW.out.lt k hk).1); have R6 := Lib.hid (lines_row hown6 HNN.out HLS.out); have hb6 : w.heap.size ≤ w6.heap.size := B6.out.size; have hcap := Lib.hid hown6; rw [HNN.out]; clear hown6 hgrow hat)
        go_cut [10, 125, 126, 127, 128, 129] (fun v10 v125 v126 v127 v128 v129 wx => v10 = .slice (some ⟨g6, 0, none⟩) N cap ∧ v125 = .slice (some ⟨g6, 0, none⟩) N cap ∧ v126 = .slice (some ⟨g6, 0, none⟩) N cap ∧ (∃ q c2, v127 = .slice q (N - 1) c2 ∧ (1 < N → q = some ⟨g6, 1, none⟩)) ∧ v128 = .int .i64 ((N - 1 : Nat) : Int) ∧ v129 = .int .i64 0 ∧ wx = w6)
        case first =>
          have n1 : (1 : Int) ≤ (N : Int) := by omega
          have hNc := row_cap R6.out
          by_cases hc1 : cap = 1
          · go_wp2_with fail
            go_meet
            exact ⟨by rw [hc1], by rw [hc1], by rw [hc1], ⟨_, _, rfl, fun h => by omega⟩, rfl, rfl, rfl⟩
          · go_wp2_with fail
            go_meet
            exact ⟨rfl, rfl, rfl, ⟨_, _, rfl, fun _ => rfl⟩, rfl, rfl, rfl⟩
        case rest =>
          obtain ⟨rfl, rfl, rfl, ⟨q, c2, rfl, hq⟩, rfl, rfl, hw6⟩ := hcut
          obtain rfl : wc = w6 := hw6
          have HQ := Lib.hid hq
          have hzb : B ≤ B := Nat.le_refl _
          have hgl := hlt6
          clear hq
          go_wp2_with fail
          go_loopw [7, 129] (fun iv jv wr => ∃ ii j : Nat, iv = .int .i64 (ii : Int) ∧ jv = .int .i64 (j : Int) ∧ ii ≤ 1073741824 ∧ j ≤ N - 1 ∧ (∀ m x, 1 ≤ m → m ≤ j → LS[m]? = some x → ii ≤ x.size) ∧ Below wc.heap.size wc wr) (fun _ jv _ => N - (numOf (some jv)).toNat)
          case atStart => exact ⟨i, 0, rfl, rfl, hib, Nat.zero_le _, fun m x h1 h2 => absurd h1 (by omega), Below.refl _ _⟩
          case round =>
            obtain ⟨ii, j, rfl, rfl, hii, hj, hmin, hbw⟩ := hrel
            have HBW2 := Lib.hid hbw
            have HMIN := Lib.hid hmin
            clear hmin hbw
            by_cases hj2 : j < N - 1
            · obtain rfl := HQ.out (by omega)
              have hj2' : (j : Int) < ((N - 1 : Nat) : Int) := by omega
              have hj0 : (0 : Int) ≤ (j : Int) := by omega
              have hj3 : ((j : Int)).toNat = j := by omega
              obtain ⟨x, hx⟩ : ∃ x, LS[j + 1]? = some x := ⟨_, List.getElem?_eq_getElem (by omega)⟩
              have HX := Lib.hid hx
              have hxz : x.size ≤ 1073741824 := by have h1 := sumZ_mem hx; have h2 := hLZ.out; omega
              have cx : wr.cell? ⟨g6, 1 + j, none⟩ = some (.string x) := by
                rw [HBW2.out.cell (p := ⟨g6, 1 + j, none⟩) hgl, R6.out.cellAt (1 + j) (by omega), Nat.add_comm 1 j, List.getElem?_map, HX.out]
                rfl
              clear hx
              have hbz : wc.heap.size ≤ wr.heap.size := HBW2.out.size
              obtain ⟨K2, hK2⟩ : ∃ K2, wr.heap.size = K2 := ⟨_, rfl⟩
              obtain ⟨w7, hw7⟩ : ∃ y, wr.iter x 0 = y := ⟨_, rfl⟩
              have I7 := Lib.hid (show w7.heap[K2]? = some (.stringIter x 0) by rw [← hw7, ← hK2]; exact World.iter_heap wr x 0)
              have B7 := Lib.hid (show Below wc.heap.size wc w7 by rw [← hw7]; exact HBW2.out.alloc hbz _)
              have hKb : wc.heap.size ≤ K2 := by omega
              go_upto_block 8 with fail
              clear hw7 hK2 cx
              go_cut [16] (fun v wx => ∃ q : Nat, v = .int .i64 (q : Int) ∧ q ≤ x.size ∧ Below wc.heap.size wc wx)
              case first =>
                go_wp2_with fail
                go_loopw [16] (fun v wy => ∃ pos : Nat, v = .int .i64 (pos : Int) ∧ wy.heap[K2]? = some (.stringIter x pos) ∧ pos ≤ x.size ∧ Below wc.heap.size wc wy) (fun _ wy => x.size - wy.iterPos K2)
                case atStart => exact ⟨0, rfl, I7.out, Nat.zero_le _, B7.out⟩
                case round =>
                  obtain ⟨pos, rfl, hk, hp, hby⟩ := hrel
                  have HK7 := Lib.hid hk
                  have HB7 := Lib.hid hby
                  have HM7 := Lib.hid (it_pos hk)
                  clear hby
                  by_cases h : pos < x.size
                  · obtain ⟨c, d, hcd, hd1, hd2, hc3, hca⟩ := rw_dec x pos h
                    have hnx := fun ty => Lib.run_next_any_at (P := Tryz.prog) wr K2 x pos ty hk h
                    simp only [hcd] at hnx
                    obtain ⟨w8, hw8⟩ : ∃ y, wr.iterAt K2 x (pos + d) = y := ⟨_, rfl⟩
                    have K8 := Lib.hid (show w8.heap[K2]? = some (.stringIter x (pos + d)) by rw [← hw8]; exact it_at HK7.out (pos + d))
                    have B8 := Lib.hid (show Below wc.heap.size wc w8 by
                      rw [← hw8]
                      exact HB7.out.trans ⟨rfl, rfl, rfl, by simp [World.iterAt], fun k hk' => by simp [World.iterAt, Array.getElem?_setIfInBounds_ne (show K2 ≠ k by omega)]⟩)
                    simp only [hw8] at hnx
                    clear hw8 hcd hk hc3
                    by_cases g3 : c = 32 ∨ c = 9
                    · obtain ⟨rfl, -⟩ := hca (by omega)
                      clear hca
                      rcases g3 with rfl | rfl
                      all_goals
                        go_wp2_with fail
                        go_roundw
                        case rel => exact ⟨pos + 1, by first | rfl | go_num, K8.out, by omega, B8.out⟩
                        case measure => rw [it_pos K8.out, HM7.out]; omega
                    · have t1 : ((c : Int) != 32) = true := bne_iff_ne.2 (by omega)
                      have t2 : ((c : Int) != 9) = true := bne_iff_ne.2 (by omega)
                      clear g3 hca
                      go_wp2_with fail
                      go_meet
                      exact ⟨pos, rfl, hp, B8.out⟩
                  · have hnx := fun ty => Lib.run_next_end_at (P := Tryz.prog) wr K2 x pos ty hk h
                    clear hk
                    go_wp2_with fail
                    go_meet
                    exact ⟨pos, rfl, hp, HB7.out⟩
              case rest =>
                obtain ⟨q2, rfl, hq2, hbq⟩ := hcut
                have HBQ := Lib.hid hbq
                have HNEW := Lib.hid (show ∀ y : Nat, y ≤ ii → y ≤ q2 → ∀ m z, 1 ≤ m → m ≤ j + 1 → LS[m]? = some z → y ≤ z.size from fun y h1 h2 m z h3 h4 h5 => by
                  by_cases e : m = j + 1
                  · subst e
                    have e2 := HX.out
                    rw [h5] at e2
                    have e3 : z = x := Option.some.inj e2
                    rw [e3]; omega
                  · have := HMIN.out m z h3 (by omega) h5
                    omega)
                clear hbq
                by_cases g4 : q2 < ii
                · have g4' : (q2 : Int) < (ii : Int) := by omega
                  go_wp2_with fail
                  go_roundw
                  case rel => exact ⟨q2, j + 1, rfl, by first | rfl | go_num, by omega, by omega, HNEW.out q2 (by omega) (Nat.le_refl _), HBQ.out⟩
                  case measure => simp only [numOf]; omega
                · have g4' : ¬ (q2 : Int) < (ii : Int) := by omega
                  go_wp2_with fail
                  go_roundw
                  case rel => exact ⟨ii, j + 1, rfl, by first | rfl | go_num, by omega, by omega, HNEW.out ii (Nat.le_refl _) (by omega), HBQ.out⟩
                  case measure => simp only [numOf]; omega
            · have hj2' : ¬ (j : Int) < ((N - 1 : Nat) : Int) := by omega
              obtain rfl : j = N - 1 := by omega
              have RW := Lib.hid (row_heap' R6.out HBW2.out)
              have START5 := Lib.hid (show L5R w.heap.size g6 cap N LS w 0 wr from ⟨LS, hLN, RW.out, fun m _ => rfl, Nat.le_refl _, B6.out.trans (HBW2.out.mono hb6)⟩)
              have hzi : ii ≤ 1073741824 := hii
              go_wp2_with fail
              go_loopw [153] (fun jv wy => ∃ j : Nat, jv = .int .i64 (j : Int) ∧ j ≤ N ∧ L5R w.heap.size g6 cap N LS w j wy) (fun jv _ => N - (numOf (some jv)).toNat)
              case atStart => exact ⟨0, rfl, Nat.zero_le _, START5.out⟩
              case round =>
                obtain ⟨j, rfl, hj, L5, h5n, h5r, h5e, h5z, h5b⟩ := hrel
                have R5 := Lib.hid h5r
                have B5 := Lib.hid h5b
                have E5 := Lib.hid h5e
                have Z5 := Lib.hid h5z
                clear h5r h5b h5e h5z START5
                by_cases hj2 : j < N
                · have hj2' : (j : Int) < (N : Int) := by omega
                  have hj0 : (0 : Int) ≤ (j : Int) := by omega
                  have hj3 : ((j : Int)).toNat = j := by omega
                  obtain ⟨x, hx⟩ : ∃ x, L5[j]? = some x := ⟨_, List.getElem?_eq_getElem (by omega)⟩
                  have HX := Lib.hid hx
                  have cx : wr.cell? ⟨g6, j, none⟩ = some (.string x) := by
                    rw [R5.out.cellAt j (by omega), List.getElem?_map, HX.out]
                    rfl
                  have zx := R5.out.frozenAt j
                  have hXL := Lib.hid (show LS[j]? = some x from (E5.out j (Nat.le_refl _)) ▸ hx)
                  clear hx
                  by_cases hj1 : 0 < j
                  · have hj1' : (0 : Int) < (j : Int) := by omega
                    have hix : ii ≤ x.size := HMIN.out j x (by omega) (by omega) hXL.out
                    have hix' : (ii : Int) ≤ (x.size : Int) := by omega
                    have hi0' : (0 : Int) ≤ (ii : Int) := by omega
                    go_wp2_with fail
                    go_roundw
                    case rel => exact ⟨j + 1, by first | rfl | go_num, by omega, l5_set h5n R5.out E5.out Z5.out B5.out HX.out (by simp only [ByteArray.size_extract]; omega)⟩
                    case measure => simp only [numOf]; omega
                  · have hj1' : ¬ (0 : Int) < (j : Int) := by omega
                    go_wp2_with fail
                    go_roundw
                    case rel => exact ⟨j + 1, by first | rfl | go_num, by omega, L5, h5n, R5.out, fun m hm => E5.out m (by omega), Z5.out, B5.out⟩
                    case measure => simp only [numOf]; omega
                · have hj2' : ¬ (j : Int) < (N : Int) := by omega
                  have JN := Tryz.strings_Join g6 0 cap L5 ⟨#[10]⟩ wr (fun m z hz => by rw [Nat.zero_add, R5.out.cellAt m (by have := (List.getElem?_eq_some_iff.1 hz).1; omega), List.getElem?_map, hz]; rfl) (own_base R5.out rfl).2 (by omega) (by have := row_cap R5.out; omega) (by
                    have h1 := join_len L5 [10]
                    have h2 := Z5.out
                    have h3 := hLZ.out
                    simp only [List.length_singleton, Nat.mul_one] at h1
                    show (Lib.join (L5.map (·.data.toList)) [10]).length ≤ _
                    omega)
                  rw [h5n] at JN
                  have JH := Lib.hid JN
                  clear JN
                  go_wp2_with fail
                  refine (JH.out).mono ?_
                  rintro y w9 ⟨rfl, hb9⟩
                  go_wp2_with fail
                  rw [Exit.noGoto_ret]
                  go_ret
                  exact ⟨⟨_, rfl⟩, B5.out.trans (hb9.mono B5.out.size)⟩
end Go.Proofs.YtmgkccnfhkcncaaGreatDoor
