/-
  css_lexer's lexer: wouldStartNumber. css_lexer's lexer: consumeEscape.
-/
import Derived.Test.YtmgkccnfhkcncaaGreatDoorLxI
import Derived.Deep.DeepCutAuto
import Derived.Deep.CutBlock
namespace Go.Proofs.YtmgkccnfhkcncaaGreatDoor
open Go.RowKit

theorem AtB.dig {s : ByteArray} {k : Nat} {r : List UInt8} (h : AtB s k r) (i : Nat) (hi : k + i < s.size) : digAt r i = digU s[k + i] := by unfold digAt; rw [h.get i hi]
theorem AtB.dot {s : ByteArray} {k : Nat} {r : List UInt8} (h : AtB s k r) (i : Nat) (hi : k + i < s.size) : dotAt r i = decide (s[k + i].toNat = 46) := by unfold dotAt; rw [h.get i hi]
theorem AtB.noDig {s : ByteArray} {k : Nat} {r : List UInt8} (h : AtB s k r) (i : Nat) (hi : s.size ≤ k + i) : digAt r i = false := by unfold digAt; rw [h.none i hi]
theorem AtB.noDot {s : ByteArray} {k : Nat} {r : List UInt8} (h : AtB s k r) (i : Nat) (hi : s.size ≤ k + i) : dotAt r i = false := by unfold dotAt; rw [h.none i hi]
theorem digU_no1 {x : UInt8} (h : ¬ 48 ≤ (x.toNat : Int)) : digU x = false := decide_eq_false (by omega)
theorem digU_no2 {x : UInt8} (h : ¬ (x.toNat : Int) ≤ 57) : digU x = false := decide_eq_false (by omega)
theorem digU_yes {x : UInt8} (h : 48 ≤ (x.toNat : Int)) (h2 : (x.toNat : Int) ≤ 57) : digU x = true := decide_eq_true (by omega)

set_option maxHeartbeats 8000000 in
set_option maxRecDepth 100000 in
theorem cntI (b : Nat) (P : Nat → Option Value) (s : ByteArray) (r : List UInt8) (st : Nat) (uo kd fl : Int) (w : World) (h : LR b P s r st uo kd fl w) :
    Calls Tryz.prog 100 #[.pointer (some ⟨b, 0, none⟩)] w fun e w' => e = .returned (.bool (cntB r)) ∧ w = w' := by
  obtain ⟨k, hA, hst, hk, hs, c10, c33, c35, -, -⟩ := h.reads
  have hA2 := hA.tail
  obtain ⟨K, hK⟩ : ∃ K, k + widB r = K := ⟨_, rfl⟩
  rw [hK] at hA2 hk c33
  obtain ⟨z, hz⟩ : ∃ z, cntB r = z := ⟨_, rfl⟩
  obtain ⟨cp, hcp⟩ : ∃ cp, hdB r = cp := ⟨_, rfl⟩
  have HZ := Lib.hid (show (if dgB cp = true then true else if cp = 46 then digAt (tlB r) 0 else if cp = 43 ∨ cp = 45 then digAt (tlB r) 0 || (dotAt (tlB r) 0 && digAt (tlB r) 1) else false) = z by rw [← hcp, ← hz]; rfl)
  rw [hcp] at c35
  rw [hz]
  have AA := Lib.hid hA2
  have hK0 : (0 : Int) ≤ (K : Int) := by omega
  clear hz hcp hK hA hA2 h hst
  by_cases g0 : dgB cp = true
  · have g1 : 48 ≤ cp ∧ cp ≤ 57 := of_decide_eq_true g0
    obtain ⟨g2, g3⟩ := g1
    have hfin := HZ.out
    rw [if_pos g0] at hfin
    subst hfin
    clear g0 HZ AA
    go_enter Tryz.func100, Tryz.ntmps100
    go_wp2_with fail
    go_ret
    exact ⟨rfl, rfl⟩
  · have HZ := Lib.hid (HZ.out)
    have g0f : dgB cp = false := Bool.eq_false_iff.2 g0
    have g1 : ¬ (48 ≤ cp ∧ cp ≤ 57) := of_decide_eq_false g0f
    have HZ2 := Lib.hid (show (if cp = 46 then digAt (tlB r) 0 else if cp = 43 ∨ cp = 45 then digAt (tlB r) 0 || (dotAt (tlB r) 0 && digAt (tlB r) 1) else false) = z by rw [← HZ.out, if_neg g0])
    clear g0 g0f HZ
    by_cases g2 : cp = 46
    · have HZ3 := Lib.hid (show digAt (tlB r) 0 = z by rw [← HZ2.out, if_pos g2])
      subst g2
      clear g1 HZ2
      by_cases hb : K < s.size
      · have hbi : (K : Int) < (s.size : Int) := by omega
        obtain ⟨x, hx⟩ : ∃ x, s[K] = x := ⟨_, rfl⟩
        have HX := Lib.hid (show digAt (tlB r) 0 = digU x by rw [← hx]; exact AA.out.dig 0 hb)
        by_cases g3 : 48 ≤ (x.toNat : Int)
        · by_cases g4 : (x.toNat : Int) ≤ 57
          · go_enter Tryz.func100, Tryz.ntmps100
            go_wp2_with fail
            go_ret
            exact ⟨ret_bool (by rw [← HZ3.out, HX.out, digU_yes (by omega) (by omega)]), rfl⟩
          · go_enter Tryz.func100, Tryz.ntmps100
            go_wp2_with fail
            go_ret
            exact ⟨ret_bool (by rw [← HZ3.out, HX.out, digU_no2 (by omega)]), rfl⟩
        · go_enter Tryz.func100, Tryz.ntmps100
          go_wp2_with fail
          go_ret
          exact ⟨ret_bool (by rw [← HZ3.out, HX.out, digU_no1 (by omega)]), rfl⟩
      · have hbi : ¬ (K : Int) < (s.size : Int) := by omega
        go_enter Tryz.func100, Tryz.ntmps100
        go_wp2_with fail
        go_ret
        exact ⟨ret_bool (by rw [← HZ3.out, AA.out.noDig 0 (by omega)]), rfl⟩
    · have t46 : (cp == 46) = false := beq_eq_false_iff_ne.2 g2
      have HZ3 := Lib.hid (show (if cp = 43 ∨ cp = 45 then digAt (tlB r) 0 || (dotAt (tlB r) 0 && digAt (tlB r) 1) else false) = z by rw [← HZ2.out, if_neg g2])
      clear HZ2 g2
      by_cases g3 : cp = 43 ∨ cp = 45
      · have HZ4 := Lib.hid (show (digAt (tlB r) 0 || (dotAt (tlB r) 0 && digAt (tlB r) 1)) = z by rw [← HZ3.out, if_pos g3])
        clear HZ3 t46 g1
        obtain ⟨y, hy⟩ : ∃ y, (cp == 43) = y := ⟨_, rfl⟩
        by_cases hb : K < s.size
        · have hbi : (K : Int) < (s.size : Int) := by omega
          obtain ⟨x, hx⟩ : ∃ x, s[K] = x := ⟨_, rfl⟩
          have HX := Lib.hid (show digAt (tlB r) 0 = digU x by rw [← hx]; exact AA.out.dig 0 hb)
          have HD := Lib.hid (show dotAt (tlB r) 0 = decide (x.toNat = 46) by rw [← hx]; exact AA.out.dot 0 hb)
          by_cases g4 : digU x = true
          · have g5 : 48 ≤ x.toNat ∧ x.toNat ≤ 57 := of_decide_eq_true g4
            have g6 : 48 ≤ (x.toNat : Int) := by omega
            have g7 : (x.toNat : Int) ≤ 57 := by omega
            have G4 := Lib.hid g4
            clear g4 g5 hy
            rcases g3 with rfl | rfl
            all_goals
              go_enter Tryz.func100, Tryz.ntmps100
              go_wp2_with fail
              go_ret
              exact ⟨ret_bool (by rw [← HZ4.out, HX.out, G4.out]; rfl), rfl⟩
          · have g5 : ¬ (48 ≤ (x.toNat : Int) ∧ (x.toNat : Int) ≤ 57) := by
              have : ¬ (48 ≤ x.toNat ∧ x.toNat ≤ 57) := of_decide_eq_false (Bool.eq_false_iff.2 g4)
              omega
            have G4 := Lib.hid (show digU x = false from Bool.eq_false_iff.2 g4)
            clear g4 hy
            by_cases g6 : x.toNat = 46
            · have t6 : ((x.toNat : Int) == 46) = true := beq_iff_eq.2 (by omega)
              have g8 : ¬ 48 ≤ (x.toNat : Int) := by omega
              have G6 := Lib.hid g6
              clear g6 g5
              by_cases hb2 : K + 1 < s.size
              · have hbi2 : (K : Int) + 1 < (s.size : Int) := by omega
                obtain ⟨y, hy⟩ : ∃ y, s[K + 1] = y := ⟨_, rfl⟩
                have HY := Lib.hid (show digAt (tlB r) 1 = digU y by rw [← hy]; exact AA.out.dig 1 hb2)
                by_cases g9 : 48 ≤ (y.toNat : Int)
                · by_cases g10 : (y.toNat : Int) ≤ 57
                  · rcases g3 with rfl | rfl
                    all_goals
                      go_enter Tryz.func100, Tryz.ntmps100
                      go_wp2_with fail
                      go_ret
                      exact ⟨ret_bool (by rw [← HZ4.out, HX.out, G4.out, HD.out, G6.out, HY.out, digU_yes (by omega) (by omega)]; rfl), rfl⟩
                  · rcases g3 with rfl | rfl
                    all_goals
                      go_enter Tryz.func100, Tryz.ntmps100
                      go_wp2_with fail
                      go_ret
                      exact ⟨ret_bool (by rw [← HZ4.out, HX.out, G4.out, HY.out, digU_no2 (by omega)]; simp), rfl⟩
                · rcases g3 with rfl | rfl
                  all_goals
                    go_enter Tryz.func100, Tryz.ntmps100
                    go_wp2_with fail
                    go_ret
                    exact ⟨ret_bool (by rw [← HZ4.out, HX.out, G4.out, HY.out, digU_no1 (by omega)]; simp), rfl⟩
              · have hbi2 : ¬ (K : Int) + 1 < (s.size : Int) := by omega
                rcases g3 with rfl | rfl
                all_goals
                  go_enter Tryz.func100, Tryz.ntmps100
                  go_wp2_with fail
                  go_ret
                  exact ⟨ret_bool (by rw [← HZ4.out, HX.out, G4.out, AA.out.noDig 1 (by omega)]; simp), rfl⟩
            · have t6 : ((x.toNat : Int) == 46) = false := beq_eq_false_iff_ne.2 (by omega)
              have G6 := Lib.hid g6
              clear g6
              by_cases g9 : 48 ≤ (x.toNat : Int)
              · have g10 : ¬ (x.toNat : Int) ≤ 57 := fun hh => g5 ⟨g9, hh⟩
                clear g5
                rcases g3 with rfl | rfl
                all_goals
                  go_enter Tryz.func100, Tryz.ntmps100
                  go_wp2_with fail
                  go_ret
                  exact ⟨ret_bool (by rw [← HZ4.out, HX.out, G4.out, HD.out, decide_eq_false G6.out]; rfl), rfl⟩
              · clear g5
                rcases g3 with rfl | rfl
                all_goals
                  go_enter Tryz.func100, Tryz.ntmps100
                  go_wp2_with fail
                  go_ret
                  exact ⟨ret_bool (by rw [← HZ4.out, HX.out, G4.out, HD.out, decide_eq_false G6.out]; rfl), rfl⟩
        · have hbi : ¬ (K : Int) < (s.size : Int) := by omega
          clear hy
          rcases g3 with rfl | rfl
          all_goals
            go_enter Tryz.func100, Tryz.ntmps100
            go_wp2_with fail
            go_ret
            exact ⟨ret_bool (by rw [← HZ4.out, AA.out.noDig 0 (by omega), AA.out.noDot 0 (by omega)]; rfl), rfl⟩
      · have t43 : (cp == 43) = false := beq_eq_false_iff_ne.2 (fun e => g3 (.inl e))
        have t45 : (cp == 45) = false := beq_eq_false_iff_ne.2 (fun e => g3 (.inr e))
        have hfin := HZ3.out
        rw [if_neg g3] at hfin
        subst hfin
        clear HZ3 g3 AA
        by_cases g4 : 48 ≤ cp
        · have g5 : ¬ cp ≤ 57 := fun hh => g1 ⟨g4, hh⟩
          clear g1
          go_enter Tryz.func100, Tryz.ntmps100
          go_wp2_with fail
          go_ret
          exact ⟨rfl, rfl⟩
        · clear g1
          go_enter Tryz.func100, Tryz.ntmps100
          go_wp2_with fail
          go_ret
          exact ⟨rfl, rfl⟩
end Go.Proofs.YtmgkccnfhkcncaaGreatDoor

namespace Go.Proofs.YtmgkccnfhkcncaaGreatDoor
open Go.RowKit

theorem hexZ_nat {c : Int} (h : 0 ≤ hexZ c) : ∃ x : Nat, hexZ c = (x : Int) ∧ x < 16 := by
  rcases hexZ_cases c with ⟨h1, h2, e⟩ | ⟨h1, h2, e⟩ | ⟨h1, h2, e⟩ | ⟨_, _, _, e⟩
  · exact ⟨(hexZ c).toNat, by omega, by omega⟩
  · exact ⟨(hexZ c).toNat, by omega, by omega⟩
  · exact ⟨(hexZ c).toNat, by omega, by omega⟩
  · omega
theorem hexZ_or (c : Int) : hexZ c = -1 ∨ ∃ x : Nat, hexZ c = (x : Int) ∧ x < 16 := by
  by_cases h : 0 ≤ hexZ c
  · exact .inr (hexZ_nat h)
  · left
    rcases hexZ_cases c with ⟨h1, h2, e⟩ | ⟨h1, h2, e⟩ | ⟨h1, h2, e⟩ | ⟨_, _, _, e⟩
    · omega
    · omega
    · omega
    · exact e
theorem hexZ_hd {r : List UInt8} {x : Nat} (h : hexZ (hdB r) = (x : Int)) : r ≠ [] ∧ hexv (Lib.decodeL r).1 = some x := by
  have hr : r ≠ [] := by rintro rfl; rw [hdB_nil] at h; rw [show hexZ (-1) = -1 from rfl] at h; omega
  refine ⟨hr, ?_⟩
  rw [hdB_cons hr, hex_nat] at h
  cases hx : hexv (Lib.decodeL r).1 with
  | none => rw [hx] at h; dsimp only at h; omega
  | some v => rw [hx] at h; dsimp only at h; congr 1; omega
theorem hexZ_hdn {r : List UInt8} (h : hexZ (hdB r) = -1) (hr : r ≠ []) : hexv (Lib.decodeL r).1 = none := by
  rw [hdB_cons hr, hex_nat] at h
  cases hx : hexv (Lib.decodeL r).1 with
  | none => rfl
  | some v => exfalso; rw [hx] at h; have h' : (v : Int) = -1 := h; omega
theorem hexB_go {n v x : Nat} {r : List UInt8} (h : hexZ (hdB r) = (x : Int)) : hexRunB (n + 1) v r = hexRunB n (v * 16 + x) (tlB r) := by
  obtain ⟨hr, hx⟩ := hexZ_hd h
  conv => lhs; unfold hexRunB
  rw [if_neg hr]
  cases hd : Lib.decodeL r with
  | mk a b =>
    rw [hd] at hx
    dsimp only at hx ⊢
    rw [hx]
    unfold tlB
    rw [hd]
theorem hexB_stop {n v : Nat} {r : List UInt8} (h : hexZ (hdB r) = -1) : hexRunB (n + 1) v r = (v, r) := by
  conv => lhs; unfold hexRunB
  by_cases hr : r = []
  · rw [if_pos hr]
  · have hx := hexZ_hdn h hr
    rw [if_neg hr]
    cases hd : Lib.decodeL r with
    | mk a b =>
      rw [hd] at hx
      dsimp only at hx ⊢
      rw [hx]
theorem wsB_go {r : List UInt8} (h : spB (hdB r) = true) : dropWsB r = tlB r := by
  have hr : r ≠ [] := by rintro rfl; exact absurd h (by decide)
  rw [hdB_cons hr, sp_nat] at h
  unfold dropWsB tlB
  rw [if_pos ⟨hr, h⟩]
theorem wsB_stop {r : List UInt8} (h : spB (hdB r) = false) : dropWsB r = r := by
  unfold dropWsB
  by_cases hr : r = []
  · rw [if_neg (fun hh => hh.1 hr)]
  · rw [hdB_cons hr, sp_nat] at h
    rw [if_neg (fun hh => by rw [h] at hh; exact absurd hh.2 (by decide))]
theorem escV_end {r : List UInt8} (h : hdB (tlB r) = -1) : escV r = (65533, tlB r) := by
  unfold escV; rw [if_pos h, hdB_end h]
theorem escV_none {r : List UInt8} (h : hexZ (hdB (tlB r)) = -1) {c : Nat} (hc : hdB (tlB r) = (c : Int)) : escV r = (c, tlB (tlB r)) := by
  have hr : tlB r ≠ [] := by intro e; rw [e, hdB_nil] at hc; omega
  have hx := hexZ_hdn h hr
  unfold escV
  rw [if_neg (by omega), hx]
  dsimp only
  rw [hdB_cons hr] at hc
  congr 1; omega
theorem escV_some {r : List UInt8} {x : Nat} (h : hexZ (hdB (tlB r)) = (x : Int)) : escV r = (fix (hexRunB 5 x (tlB (tlB r))).1, dropWsB (hexRunB 5 x (tlB (tlB r))).2) := by
  obtain ⟨hr, hx⟩ := hexZ_hd h
  unfold escV
  rw [if_neg (by rw [hdB_cons hr]; omega), hx]

set_option maxHeartbeats 8000000 in
set_option maxRecDepth 1000000 in
theorem escI (b : Nat) (P : Nat → Option Value) (s : ByteArray) (r : List UInt8) (st : Nat) (uo kd fl : Int) (w : World) (h : LR b P s r st uo kd fl w) :
    Calls Tryz.prog 122 #[.pointer (some ⟨b, 0, none⟩)] w fun e w' => e = .returned (.int .i32 ((escV r).1 : Nat)) ∧ LR b P s (escV r).2 st uo kd fl w' ∧ Fr b w w' := by
  have S1 := Lib.hid (stepL b P s r st uo kd fl w h)
  have ST := Lib.hid (fun r w (h : LR b P s r st uo kd fl w) => stepL b P s r st uo kd fl w h)
  clear h
  rcases hexZ_or (hdB (tlB r)) with hx | ⟨x, hx, hx16⟩
  · by_cases he : hdB (tlB r) = -1
    · rw [escV_end he]
      have X := Lib.hid (fun w => isHex_none (hdB (tlB r)) w hx)
      rw [he] at X
      have HE := Lib.hid he
      clear hx he
      go_enter Tryz.func122, Tryz.ntmps122
      go_wp2_with fail
      refine (S1.out).mono ?_
      rintro e w1 ⟨rfl, h1, f1⟩
      obtain ⟨k, -, -, -, -, -, -, c35, -, -⟩ := h1.reads
      rw [HE.out] at c35
      have H1 := Lib.hid h1
      have F1 := Lib.hid f1
      clear h1 f1
      go_wp2_with (go_at_call 83; refine (X.out _).mono ?_; rintro e w' ⟨rfl, rfl⟩)
      go_ret
      exact ⟨rfl, H1.out, F1.out⟩
    · obtain ⟨c, hc⟩ : ∃ c : Nat, hdB (tlB r) = (c : Int) := ⟨(hdB (tlB r)).toNat, by have := (hdB_range (tlB r)).1; omega⟩
      rw [escV_none hx hc]
      have X := Lib.hid (fun w => isHex_none (hdB (tlB r)) w hx)
      rw [hc] at X
      have hcr := (hdB_range (tlB r)).2
      rw [hc] at hcr
      have t1 : ((c : Int) == -1) = false := beq_eq_false_iff_ne.2 (by omega)
      have HC := Lib.hid hc
      clear hx he hc
      go_enter Tryz.func122, Tryz.ntmps122
      go_wp2_with fail
      refine (S1.out).mono ?_
      rintro e w1 ⟨rfl, h1, f1⟩
      obtain ⟨k, -, -, -, -, -, -, c35, -, -⟩ := h1.reads
      rw [HC.out] at c35
      have S2 := Lib.hid (ST.out _ _ h1)
      have F1 := Lib.hid f1
      clear h1 f1
      go_wp2_with (go_at_call 83; refine (X.out _).mono ?_; rintro e w' ⟨rfl, rfl⟩)
      refine (S2.out).mono ?_
      rintro e w2 ⟨rfl, h2, f2⟩
      go_wp2
      go_ret
      exact ⟨rfl, h2, F1.out.trans f2⟩
  · rw [escV_some hx]
    have X := Lib.hid (fun w => isHex_some (hdB (tlB r)) w (by rw [hx]; omega))
    rw [hx] at X
    obtain ⟨cp, hcp⟩ : ∃ cp, hdB (tlB r) = cp := ⟨_, rfl⟩
    rw [hcp] at X
    have HC := Lib.hid hcp
    clear hx hcp
    obtain ⟨V, R, hrun⟩ : ∃ V R, hexRunB 5 x (tlB (tlB r)) = (V, R) := ⟨_, _, rfl⟩
    rw [hrun]
    have RUN := Lib.hid hrun
    clear hrun
    go_enter Tryz.func122, Tryz.ntmps122
    go_wp2_with fail
    refine (S1.out).mono ?_
    rintro e w1 ⟨rfl, h1, f1⟩
    obtain ⟨k, -, -, -, -, -, -, c35, -, -⟩ := h1.reads
    rw [HC.out] at c35
    have S2 := Lib.hid (ST.out _ _ h1)
    have F1 := Lib.hid f1
    clear h1 f1
    go_wp2_with (go_at_call 83; refine (X.out _).mono ?_; rintro e w' ⟨rfl, rfl⟩)
    refine (S2.out).mono ?_
    rintro e w2 ⟨rfl, h2, f2⟩
    have H2 := Lib.hid h2
    have F2 := Lib.hid (F1.out.trans f2)
    clear h2 f2 c35
    go_upto_block 0 with fail
    go_cut [4] (fun hex wx => hex = .int .i64 (V : Int) ∧ V ≤ 16777215 ∧ LR b P s R st uo kd fl wx ∧ Fr b w wx)
    case first =>
      go_wp2_with fail
      go_loopw [4, 6] (fun hex i wx => ∃ (v j : Nat) (r' : List UInt8), j ≤ 5 ∧ hex = .int .i64 (v : Int) ∧ i = .int .i64 (j : Int) ∧ hexRunB (5 - j) v r' = (V, R) ∧ v < 16 ^ (j + 1) ∧ LR b P s r' st uo kd fl wx ∧ Fr b w wx) (fun _ i _ => 5 - (intOf i).toNat)
      case atStart => exact ⟨x, 0, tlB (tlB r), by omega, rfl, rfl, RUN.out, by omega, H2.out, F2.out⟩
      case round =>
        obtain ⟨v, j, r', hj, rfl, rfl, hrun, hv, hL, hF⟩ := hrel
        obtain ⟨k', -, -, -, -, -, -, d35, -, -⟩ := hL.reads
        have HL := Lib.hid hL
        have HF := Lib.hid hF
        clear hL hF
        by_cases hj5 : j = 5
        · subst hj5
          obtain ⟨rfl, rfl⟩ := Prod.mk.inj (show (v, r') = (V, R) from hrun)
          have hvm : v ≤ 16777215 := by omega
          clear hrun d35 hv
          go_wp2_with fail
          go_meet
          exact ⟨rfl, hvm, HL.out, HF.out⟩
        · obtain ⟨q, hq⟩ : ∃ q, 5 - j = q + 1 := ⟨4 - j, by omega⟩
          rw [hq] at hrun
          have hjq : 5 - (j + 1) = q := by omega
          have h5 : (j : Int) < 5 := by omega
          obtain ⟨cp2, hcp2⟩ : ∃ cp, hdB r' = cp := ⟨_, rfl⟩
          rw [hcp2] at d35
          rcases hexZ_or (hdB r') with hx3 | ⟨y, hx3, hy⟩
          · rw [hexB_stop hx3] at hrun
            have X3 := Lib.hid (fun w => isHex_none (hdB r') w hx3)
            rw [hcp2] at X3
            obtain ⟨rfl, rfl⟩ := Prod.mk.inj hrun
            have hp : 16 ^ (j + 1) ≤ 16 ^ 6 := Nat.pow_le_pow_right (by omega) (by omega)
            have hvm : v ≤ 16777215 := by omega
            clear hrun hq hjq hx3 hcp2 hv hp
            go_wp2_with (go_at_call 83; refine (X3.out _).mono ?_; rintro e w' ⟨rfl, rfl⟩)
            go_meet
            exact ⟨rfl, hvm, HL.out, HF.out⟩
          · rw [hexB_go hx3] at hrun
            have X3 := Lib.hid (fun w => isHex_some (hdB r') w (by rw [hx3]; omega))
            rw [hx3, hcp2] at X3
            have hp : 16 ^ (j + 1) ≤ 16 ^ 5 := Nat.pow_le_pow_right (by omega) (by omega)
            have hp2 : 16 ^ (j + 1 + 1) = 16 ^ (j + 1) * 16 := Nat.pow_succ ..
            have hv6 : v * 16 + y < 16 ^ (j + 1 + 1) := by omega
            have hv5 : v ≤ 1048575 := by omega
            have HV := Lib.hid hv6
            have RUN4 := Lib.hid hrun
            have JQ := Lib.hid hjq
            have S3 := Lib.hid (ST.out _ _ HL.out)
            clear hrun hq hjq hx3 hp hp2 hv6 hv hcp2
            go_wp2_with (go_at_call 83; refine (X3.out _).mono ?_; rintro e w' ⟨rfl, rfl⟩)
            refine (S3.out).mono ?_
            rintro e w4 ⟨rfl, h4, f4⟩
            have H4 := Lib.hid h4
            have F4 := Lib.hid (HF.out.trans f4)
            clear h4 f4 d35
            go_wp2_with fail
            go_roundw
            case rel => exact ⟨v * 16 + y, j + 1, tlB r', by omega, by go_num, by go_num, by rw [JQ.out]; exact RUN4.out, HV.out, H4.out, F4.out⟩
            case measure => simp [intOf]; omega
    case rest =>
      obtain ⟨rfl, hVm, hL, hF⟩ := hcut
      obtain ⟨k', -, -, -, -, -, -, d35, -, -⟩ := hL.reads
      have W := Lib.hid (fun w => lexSpace (hdB R) w)
      obtain ⟨cp2, hcp2⟩ : ∃ cp, hdB R = cp := ⟨_, rfl⟩
      have HC2 := Lib.hid hcp2
      rw [hcp2] at W d35
      have S4 := Lib.hid (ST.out _ _ hL)
      have HL := Lib.hid hL
      have HF := Lib.hid hF
      clear hL hF hcp2
      go_upto_if 46 with (go_at_call 62; refine (W.out _).mono ?_; rintro e w' ⟨rfl, rfl⟩)
      go_cut [4] (fun hex wx => hex = .int .i64 (V : Int) ∧ LR b P s (dropWsB R) st uo kd fl wx ∧ Fr b w wx)
      case first =>
        by_cases hsp : spB cp2 = true
        · have HW := Lib.hid (show dropWsB R = tlB R from wsB_go (by rw [HC2.out]; exact hsp))
          rw [hsp]
          go_wp2_with fail
          refine (S4.out).mono ?_
          rintro e w4 ⟨rfl, h4, f4⟩
          have H4 := Lib.hid h4
          have F4 := Lib.hid (HF.out.trans f4)
          clear h4 f4
          go_wp2_with fail
          go_meet
          exact ⟨rfl, by rw [HW.out]; exact H4.out, F4.out⟩
        · have hsf : spB cp2 = false := Bool.eq_false_iff.2 hsp
          have HW := Lib.hid (show dropWsB R = R from wsB_stop (by rw [HC2.out]; exact hsf))
          rw [hsf]
          go_wp2_with fail
          go_meet
          exact ⟨rfl, by rw [HW.out]; exact HL.out, HF.out⟩
      case rest =>
        obtain ⟨rfl, hL, hF⟩ := hcut
        have HL2 := Lib.hid hL
        have HF2 := Lib.hid hF
        clear hL hF d35
        by_cases v0 : V = 0
        · subst v0
          go_wp2_with fail
          go_ret
          exact ⟨rfl, HL2.out, HF2.out⟩
        · have t0 : ((V : Int) == 0) = false := beq_eq_false_iff_ne.2 (by omega)
          by_cases v1 : 55296 ≤ V ∧ V ≤ 57343
          · have g1 : (55296 : Int) ≤ (V : Int) := by omega
            have g2 : (V : Int) ≤ 57343 := by omega
            have HX := Lib.hid (show fix V = 65533 from if_pos (.inr (.inl v1)))
            clear v1 v0
            go_wp2_with fail
            go_ret
            exact ⟨by rw [HX.out]; rfl, HL2.out, HF2.out⟩
          · by_cases v2 : 1114111 < V
            · have g1 : ¬ (V : Int) ≤ 57343 := by omega
              have g2 : (55296 : Int) ≤ (V : Int) := by omega
              have g3 : (1114111 : Int) < (V : Int) := by omega
              have HX := Lib.hid (show fix V = 65533 from if_pos (.inr (.inr v2)))
              clear v1 v0 v2
              go_wp2_with fail
              go_ret
              exact ⟨by rw [HX.out]; rfl, HL2.out, HF2.out⟩
            · have g3 : ¬ (1114111 : Int) < (V : Int) := by omega
              have HX := Lib.hid (show fix V = V from if_neg (by omega))
              by_cases v3 : 55296 ≤ V
              · have g1 : ¬ (V : Int) ≤ 57343 := by omega
                have g2 : (55296 : Int) ≤ (V : Int) := by omega
                clear v1 v0 v2 v3
                go_wp2_with fail
                go_ret
                exact ⟨by rw [HX.out]; rfl, HL2.out, HF2.out⟩
              · have g2 : ¬ (55296 : Int) ≤ (V : Int) := by omega
                clear v1 v0 v2 v3
                go_wp2_with fail
                go_ret
                exact ⟨by rw [HX.out]; rfl, HL2.out, HF2.out⟩
end Go.Proofs.YtmgkccnfhkcncaaGreatDoor
