/-
  The lexer's tracker of lines and columns: where it stands; scanTo forward. Plain Lean, no program: places that no code point lies across. The lexer's tracker of lines and columns: computeLineAndColumn, MsgLocationOrNil, MsgData. The lexer's tracker of lines and columns: MsgLocationOrNil, MsgData.
-/
import Derived.Test.YtmgkccnfhkcncaaGreatDoorLoop
import Derived.Deep.RegionHeld3
import Derived.RegionTactic
import Derived.Deep.DrawnRows
import Derived.BigRegion
namespace Go.Proofs.YtmgkccnfhkcncaaGreatDoor
open Go.RowKit
attribute [local go_sem ↓] Go.wp_at_zero Go.wp_at_succ

/-- An end of a line, to the tracker. -/
def nlU (c : Int) : Bool := decide (c = 10) || (decide (c = 13) || (decide (c = 8232) || decide (c = 8233)))
def eolStep (r : List UInt8) : List UInt8 ⊕ List UInt8 := if hdB r = -1 ∨ nlU (hdB r) = true then .inl r else .inr (tlB r)
theorem eolStep_lt (x y : List UInt8) (h : eolStep x = .inr y) : y.length < x.length := by
  unfold eolStep at h
  by_cases h1 : hdB x = -1 ∨ nlU (hdB x) = true
  · rw [if_pos h1] at h; cases h
  · rw [if_neg h1] at h
    obtain rfl := Sum.inr.inj h
    exact tl_lt rfl (fun e => h1 (.inl e))
/-- What is left from the end of the line on. -/
def eolB (r : List UInt8) : List UInt8 := loopB eolStep [] r
theorem eolB_stop {r : List UInt8} (h : hdB r = -1 ∨ nlU (hdB r) = true) : eolB r = r := loopB_end (by unfold eolStep; rw [if_pos h])
theorem eolB_go {r : List UInt8} (h1 : hdB r ≠ -1) (h2 : nlU (hdB r) = false) : eolB r = eolB (tlB r) := loopB_go eolStep_lt (by unfold eolStep; rw [if_neg (by rintro (h | h); exact h1 h; rw [h2] at h; cases h)])
theorem eolB_suf (r : List UInt8) : eolB r <:+ r := by
  refine loopB_ind eolStep_lt (fun x y => y <:+ x) ?_ ?_ _ r (Nat.le_refl _)
  · intro x a h
    unfold eolStep at h
    split at h
    · obtain rfl := Sum.inl.inj h; exact List.suffix_refl _
    · cases h
  · intro x y a h hq
    unfold eolStep at h
    split at h
    · cases h
    · obtain rfl := Sum.inr.inj h; exact hq.trans (tlB_suf x)

/-- No code point of the text lies across a place. -/
def Bd (s : ByteArray) (p : Nat) : Prop := p ≤ s.size ∧ ∀ q, q < p → q + widB (s.data.toList.drop q) ≤ p
theorem Bd.at {s : ByteArray} {p k : Nat} {r : List UInt8} (h : Bd s p) (hA : AtB s k r) (hk : k < p) : k + widB r ≤ p := by
  have := h.2 k hk
  rwa [hA.drop] at this

def updP (P : Nat → Option Value) (i : Nat) (v : Value) : Nat → Option Value := fun j => if j = i then some v else P j
theorem updP_same (P : Nat → Option Value) (i : Nat) (v : Value) : updP P i v i = some v := if_pos rfl
theorem updP_other (P : Nat → Option Value) {i j : Nat} (v : Value) (h : j ≠ i) : updP P i v j = P j := if_neg h
theorem LB.setP {b : Nat} {P : Nat → Option Value} {n cur cp st ln uo kd fl : Int} {w : World} (h : LB b P n cur cp st ln uo kd fl w) (i : Nat) (hi : i < 32 ∨ i = 34) (v : Value) : LB b (updP P i v) n cur cp st ln uo kd fl (w.setCell ⟨b, i, none⟩ v) := by
  obtain ⟨cs, hb, hs, hP, h32, h33, h35, h36, h37, h38, h39, h40⟩ := h
  refine ⟨_, heap_put hb i _, by simpa using hs, fun j hj => ?_, ?_, ?_, ?_, ?_, ?_, ?_, ?_, ?_⟩
  · by_cases e : j = i
    · subst e
      rw [updP_same, Array.getElem?_setIfInBounds_self_of_lt (by omega)]
    · rw [updP_other P v e, Array.getElem?_setIfInBounds_ne (by omega)]; exact hP j hj
  all_goals (rw [Array.getElem?_setIfInBounds_ne (by omega)]; assumption)

/-- The tracker of block b's lexer, but for its place; it has read up to byte k. -/
def TrkL (P : Nat → Option Value) (s : ByteArray) (k : Nat) : Prop :=
  P 22 = some (.string s) ∧ P 23 = some (.string ⟨#[]⟩) ∧ P 24 = some (.string ⟨#[]⟩) ∧ (∃ l : Int, P 26 = some (.int .i32 l)) ∧ P 29 = some (.bool true) ∧ P 31 = some (.bool true) ∧
  ∃ (a e : Nat) (he : Bool), P 27 = some (.int .i32 (a : Int)) ∧ P 28 = some (.int .i32 (e : Int)) ∧ P 30 = some (.bool he) ∧ a ≤ k ∧ (he = true → e + (eolB (s.data.toList.drop k)).length = s.size)
/-- The tracker stands at byte k. -/
def TrkP (P : Nat → Option Value) (s : ByteArray) (k : Nat) : Prop := TrkL P s k ∧ P 25 = some (.int .i32 (k : Int))
/-- All but the tracker's own cells are the same. -/
def SameT (P P' : Nat → Option Value) : Prop := ∀ i, ¬ (25 ≤ i ∧ i ≤ 30) → P' i = P i
theorem SameT.refl (P : Nat → Option Value) : SameT P P := fun _ _ => rfl
theorem SameT.trans {P Q R : Nat → Option Value} (h : SameT P Q) (k : SameT Q R) : SameT P R := fun i hi => (k i hi).trans (h i hi)
theorem SameT.upd (P : Nat → Option Value) (i : Nat) (v : Value) (h : 25 ≤ i ∧ i ≤ 30) : SameT P (updP P i v) := fun j hj => updP_other P v (by omega)
/-- What scanTo's loop carries: it has read up to i. -/
def ScR (b : Nat) (P : Nat → Option Value) (s : ByteArray) (k off i : Nat) (n cur cp st ln uo kd fl : Int) (w0 w : World) : Prop :=
  ∃ P', SameT P P' ∧ TrkL P' s i ∧ LB b P' n cur cp st ln uo kd fl w ∧ Fr b w0 w ∧ k ≤ i ∧ i < off
theorem trk_plain {P : Nat → Option Value} {s : ByteArray} {i : Nat} {r : List UInt8} (h : TrkL P s i) (hA : AtB s i r) (h1 : hdB r ≠ -1) (h2 : nlU (hdB r) = false) : TrkL P s (i + widB r) := by
  obtain ⟨p22, p23, p24, p26, p29, p31, a, e, he, p27, p28, p30, ha, hh⟩ := h
  refine ⟨p22, p23, p24, p26, p29, p31, a, e, he, p27, p28, p30, by omega, fun hx => ?_⟩
  have := hh hx
  rw [hA.drop, eolB_go h1 h2, ← hA.tail.drop] at this
  exact this
theorem trk_line {P : Nat → Option Value} {s : ByteArray} {i j : Nat} (h : TrkL P s i) (l : Int) : TrkL (updP (updP (updP (updP P 29 (.bool true)) 30 (.bool false)) 27 (.int .i32 (j : Int))) 26 (.int .i32 l)) s j := by
  obtain ⟨p22, p23, p24, p26, p29, p31, a, e, he, p27, p28, p30, ha, hh⟩ := h
  refine ⟨p22, p23, p24, ⟨l, rfl⟩, rfl, p31, j, e, false, rfl, p28, rfl, Nat.le_refl _, fun hx => by cases hx⟩
theorem trk_line0 {P : Nat → Option Value} {s : ByteArray} {i j : Nat} (h : TrkL P s i) : TrkL (updP (updP (updP P 29 (.bool true)) 30 (.bool false)) 27 (.int .i32 (j : Int))) s j := by
  obtain ⟨p22, p23, p24, p26, p29, p31, a, e, he, p27, p28, p30, ha, hh⟩ := h
  exact ⟨p22, p23, p24, p26, rfl, p31, j, e, false, rfl, p28, rfl, Nat.le_refl _, fun hx => by cases hx⟩

theorem nlU_no {c : Nat} (h : nlU (c : Int) = false) : c ≠ 10 ∧ c ≠ 13 ∧ c ≠ 8232 ∧ c ≠ 8233 := by
  unfold nlU at h
  simp only [Bool.or_eq_false_iff, decide_eq_false_iff_not] at h
  omega
theorem nlU_yes {c : Nat} (h : nlU (c : Int) = true) : c = 10 ∨ c = 13 ∨ c = 8232 ∨ c = 8233 := by
  unfold nlU at h
  simp only [Bool.or_eq_true, decide_eq_true_eq] at h
  omega
/-- scanTo's round behind an end of a line. -/
theorem sc_line {b : Nat} {P P' : Nat → Option Value} {s : ByteArray} {i j : Nat} {n cur cp st ln uo kd fl l : Int} {w0 w wx : World} (hS : SameT P P') (hT : TrkL P' s i) (hL : LB b P' n cur cp st ln uo kd fl w) (hF : Fr b w0 w)
    (hx : wx = (((w.setCell ⟨b, 29, none⟩ (.bool true)).setCell ⟨b, 30, none⟩ (.bool false)).setCell ⟨b, 27, none⟩ (.int .i32 (j : Int))).setCell ⟨b, 26, none⟩ (.int .i32 l)) :
    ∃ P'', SameT P P'' ∧ TrkL P'' s j ∧ LB b P'' n cur cp st ln uo kd fl wx ∧ Fr b w0 wx := by
  subst hx
  refine ⟨_, ?_, trk_line hT (j := j) l, (((hL.setP 29 (by omega) _).setP 30 (by omega) _).setP 27 (by omega) _).setP 26 (by omega) _, ((((hF.trans (Fr.setCell _ 29 _)).trans (Fr.setCell _ 30 _)).trans (Fr.setCell _ 27 _)).trans (Fr.setCell _ 26 _))⟩
  exact (((hS.trans (SameT.upd _ 29 _ (by omega))).trans (SameT.upd _ 30 _ (by omega))).trans (SameT.upd _ 27 _ (by omega))).trans (SameT.upd _ 26 _ (by omega))
theorem sc_line0 {b : Nat} {P P' : Nat → Option Value} {s : ByteArray} {i j : Nat} {n cur cp st ln uo kd fl : Int} {w0 w wx : World} (hS : SameT P P') (hT : TrkL P' s i) (hL : LB b P' n cur cp st ln uo kd fl w) (hF : Fr b w0 w)
    (hx : wx = ((w.setCell ⟨b, 29, none⟩ (.bool true)).setCell ⟨b, 30, none⟩ (.bool false)).setCell ⟨b, 27, none⟩ (.int .i32 (j : Int))) :
    ∃ P'', SameT P P'' ∧ TrkL P'' s j ∧ LB b P'' n cur cp st ln uo kd fl wx ∧ Fr b w0 wx := by
  subst hx
  refine ⟨_, ?_, trk_line0 hT (j := j), ((hL.setP 29 (by omega) _).setP 30 (by omega) _).setP 27 (by omega) _, (((hF.trans (Fr.setCell _ 29 _)).trans (Fr.setCell _ 30 _)).trans (Fr.setCell _ 27 _))⟩
  exact ((hS.trans (SameT.upd _ 29 _ (by omega))).trans (SameT.upd _ 30 _ (by omega))).trans (SameT.upd _ 27 _ (by omega))
theorem sc_none {b : Nat} {P P' : Nat → Option Value} {s : ByteArray} {j : Nat} {n cur cp st ln uo kd fl : Int} {w0 w : World} (hS : SameT P P') (hT : TrkL P' s j) (hL : LB b P' n cur cp st ln uo kd fl w) (hF : Fr b w0 w) :
    ∃ P'', SameT P P'' ∧ TrkL P'' s j ∧ LB b P'' n cur cp st ln uo kd fl w ∧ Fr b w0 w := ⟨P', hS, hT, hL, hF⟩
/-- What scanTo's caller sees. -/
def ScP (b : Nat) (P : Nat → Option Value) (s : ByteArray) (off : Nat) (n cur cp st ln uo kd fl : Int) (w : World) (e : Ending) (w' : World) : Prop :=
  e = .returned (.tuple #[]) ∧ ∃ P', SameT P P' ∧ TrkP P' s off ∧ LB b P' n cur cp st ln uo kd fl w' ∧ Fr b w w'
theorem sc_end {b : Nat} {P P' : Nat → Option Value} {s : ByteArray} {i off : Nat} {n cur cp st ln uo kd fl : Int} {w0 w wx : World} (h : SameT P P' ∧ TrkL P' s i ∧ LB b P' n cur cp st ln uo kd fl w ∧ Fr b w0 w) (hi : i = off)
    (hx : wx = w.setCell ⟨b, 25, none⟩ (.int .i32 (i : Int))) : ScP b P s off n cur cp st ln uo kd fl w0 (.returned (.tuple #[])) wx := by
  obtain ⟨hS, hT, hL, hF⟩ := h
  subst hx
  subst hi
  refine ⟨rfl, _, hS.trans (SameT.upd _ 25 _ (by omega)), ⟨?_, updP_same _ _ _⟩, hL.setP 25 (by omega) _, hF.trans (Fr.setCell _ 25 _)⟩
  obtain ⟨p22, p23, p24, p26, p29, p31, a, e, he, p27, p28, p30, ha, hh⟩ := hT
  exact ⟨p22, p23, p24, p26, p29, p31, a, e, he, p27, p28, p30, ha, hh⟩

set_option maxHeartbeats 8000000 in
set_option maxRecDepth 1000000 in
theorem scanI (b : Nat) (P : Nat → Option Value) (s : ByteArray) (k off : Nat) (n cur cp st ln uo kd fl : Int) (w : World) (hTB : TB b w) (hP : TrkP P s k) (hL : LB b P n cur cp st ln uo kd fl w) (hs : s.size ≤ 1073741824) (hko : k ≤ off) (hB : Bd s off) :
    Calls Tryz.prog 145 #[.pointer (some ⟨b, 22, none⟩), .int .i32 (off : Int)] w fun e w' => ScP b P s off n cur cp st ln uo kd fl w e w' := by
  have hoz := hB.1
  have c22 : w.cell? ⟨b, 22, none⟩ = some (.string s) := (hL.p 22 (by omega)).trans hP.1.1
  have c25 : w.cell? ⟨b, 25, none⟩ = some (.int .i32 (k : Int)) := (hL.p 25 (by omega)).trans hP.2
  have HB := Lib.hid hB
  have HP := Lib.hid hP
  have HL := Lib.hid hL
  have HT := Lib.hid hTB
  have D := Lib.hid (fun (k : Nat) (r : List UInt8) (h : AtB s k r) (w : World) hT => decodeAt h w hT)
  clear hB hP hL hTB
  by_cases h1 : k < off
  · go_enter Tryz.func145, Tryz.ntmps145
    go_wp2_with fail
    go_loopw [5] (fun iv wr => ∃ i : Nat, iv = .int .i32 (i : Int) ∧ ScR b P s k off i n cur cp st ln uo kd fl w wr) (fun iv _ => off - (numOf (some iv)).toNat)
    case atStart => exact ⟨k, rfl, P, SameT.refl P, HP.out.1, HL.out, Fr.refl _ _, Nat.le_refl _, h1⟩
    case round =>
      obtain ⟨i, rfl, P', hS, hTL, hL, hF, hki, hio⟩ := hrel
      obtain ⟨r, hr⟩ : ∃ r, s.data.toList.drop i = r := ⟨_, rfl⟩
      have hA : AtB s i r := ⟨hr, by omega⟩
      have hne : r ≠ [] := by
        rintro rfl
        have := hA.size
        simp at this
        omega
      have hm1 := widB_pos hne
      have hbd := HB.out.at hA hio
      have hc : hdB r = ((decG r).1 : Int) := hdB_decG hm1
      have hcr := (decG_range r).1
      have hPL := trk_plain hTL hA
      have hlow : (decG r).1 < 128 → widB r = 1 := fun h => by
        obtain ⟨x, t, rfl, _, _, h4⟩ := hdB_low hc h
        exact h4
      have DD := Lib.hid (D.out i r hA)
      obtain ⟨m, hm⟩ : ∃ m, widB r = m := ⟨_, rfl⟩
      obtain ⟨c, hcc⟩ : ∃ c, (decG r).1 = c := ⟨_, rfl⟩
      rw [hm, hcc] at DD
      rw [hm] at hm1 hbd hPL hlow
      rw [hcc] at hc hcr hlow
      rw [hc] at hPL
      have PL := Lib.hid hPL
      have TL := Lib.hid hTL
      have HS := Lib.hid hS
      have HF := Lib.hid hF
      have HL2 := Lib.hid hL
      have HT2 := Lib.hid (HT.out.fr hF)
      have HLO := Lib.hid hlow
      have hi0 : (0 : Int) ≤ (i : Int) := by omega
      have his : (i : Int) ≤ (s.size : Int) := by omega
      obtain ⟨-, -, -, ⟨l, hl⟩, -⟩ := hTL
      have HL26 := Lib.hid hl
      have hlt := hL.lt
      clear hr hA hne hc hPL hS hF hlow hm hcc hl hL
      go_wp2_with fail
      refine (DD.out _ HT2.out.tabs).mono ?_
      rintro e w1 ⟨rfl, hb1⟩
      have HL1 := Lib.hid (HL2.out.of (hb1.block b hlt))
      have HF1 := Lib.hid (HF.out.trans (Fr.of hb1))
      obtain ⟨e26, e27, e29, e30⟩ : w1.cell? ⟨b, 26, none⟩ = some (.int .i32 l) ∧ (∃ v, w1.cell? ⟨b, 27, none⟩ = some v) ∧ w1.cell? ⟨b, 29, none⟩ = some (.bool true) ∧ (∃ v, w1.cell? ⟨b, 30, none⟩ = some v) := by
        obtain ⟨-, -, -, -, p29, -, a, e, he, p27, -, p30, -⟩ := TL.out
        exact ⟨(HL1.out.p 26 (by omega)).trans HL26.out, ⟨_, (HL1.out.p 27 (by omega)).trans p27⟩, (HL1.out.p 29 (by omega)).trans p29, ⟨_, (HL1.out.p 30 (by omega)).trans p30⟩⟩
      obtain ⟨v27, e27⟩ := e27
      obtain ⟨v30, e30⟩ := e30
      have z25 := HL1.out.fz 25
      have z26 := HL1.out.fz 26
      have z27 := HL1.out.fz 27
      have z29 := HL1.out.fz 29
      have z30 := HL1.out.fz 30
      obtain ⟨v25, e25⟩ : ∃ v, w1.cell? ⟨b, 25, none⟩ = some v := by
        obtain ⟨cs, hb, hs, _⟩ := HL1.out
        exact ⟨cs[25]'(by omega), by rw [Lib.cell_of_heap hb]; exact Array.getElem?_eq_getElem _⟩
      clear hb1
      by_cases g1 : c = 10
      · subst g1
        obtain rfl : m = 1 := HLO.out (by omega)
        clear hm1 hcr
        by_cases g2 : i = 0
        · subst g2
          by_cases g3 : 0 + 1 < off
          · have g3' : (1 : Int) < (off : Int) := by omega
            go_wp2_with fail
            go_roundw
            case rel =>
              obtain ⟨P2, h1, h2, h3, h4⟩ := sc_line (j := 1) HS.out TL.out HL1.out HF1.out rfl
              exact ⟨1, by first | rfl | go_num, P2, h1, h2, h3, h4, by omega, by omega⟩
            case measure => simp only [numOf]; omega
          · have g3' : ¬ (1 : Int) < (off : Int) := by omega
            have OF := Lib.hid (show 1 = off by omega)
            go_wp2_with fail
            go_end0
            obtain ⟨P2, h1, h2, h3, h4⟩ := sc_line (j := 1) HS.out TL.out HL1.out HF1.out rfl
            exact sc_end (i := 1) ⟨h1, h2, h3, h4⟩ OF.out rfl
        · have i0 : 0 ≤ (i : Int) + 1 - 1 - 1 := by omega
          have i1 : (i : Int) + 1 - 1 - 1 < (s.size : Int) := by omega
          have i2 : i - 1 < s.size := by omega
          have i3 : 1 ≤ (i : Int) := by omega
          have i4 : (i : Int) - 1 < (s.size : Int) := by omega
          have t1 : ((i : Int) + 1 == 1) = false := beq_eq_false_iff_ne.2 (by omega)
          obtain ⟨x, hx⟩ : ∃ x, ((s[i - 1].toNat : Int) != 13) = x := ⟨_, rfl⟩
          cases x
          · -- behind a carriage return
            by_cases g3 : i + 1 < off
            · have g3' : (i : Int) + 1 < (off : Int) := by omega
              go_wp2_with fail
              go_roundw
              case rel =>
                obtain ⟨P2, h1, h2, h3, h4⟩ := sc_line0 (j := i + 1) HS.out TL.out HL1.out HF1.out rfl
                exact ⟨(i + 1), by first | rfl | go_num, P2, h1, h2, h3, h4, by omega, by omega⟩
              case measure => simp only [numOf]; omega
            · have g3' : ¬ (i : Int) + 1 < (off : Int) := by omega
              have OF := Lib.hid (show (i + 1) = off by omega)
              go_wp2_with fail
              go_end0
              obtain ⟨P2, h1, h2, h3, h4⟩ := sc_line0 (j := i + 1) HS.out TL.out HL1.out HF1.out rfl
              exact sc_end (i := (i + 1)) ⟨h1, h2, h3, h4⟩ OF.out rfl
          · -- a line feed alone
            by_cases g3 : i + 1 < off
            · have g3' : (i : Int) + 1 < (off : Int) := by omega
              go_wp2_with fail
              go_roundw
              case rel =>
                obtain ⟨P2, h1, h2, h3, h4⟩ := sc_line (j := i + 1) HS.out TL.out HL1.out HF1.out rfl
                exact ⟨(i + 1), by first | rfl | go_num, P2, h1, h2, h3, h4, by omega, by omega⟩
              case measure => simp only [numOf]; omega
            · have g3' : ¬ (i : Int) + 1 < (off : Int) := by omega
              have OF := Lib.hid (show (i + 1) = off by omega)
              go_wp2_with fail
              go_end0
              obtain ⟨P2, h1, h2, h3, h4⟩ := sc_line (j := i + 1) HS.out TL.out HL1.out HF1.out rfl
              exact sc_end (i := (i + 1)) ⟨h1, h2, h3, h4⟩ OF.out rfl
      · by_cases g4 : c = 13 ∨ c = 8232 ∨ c = 8233
        · rcases g4 with rfl | rfl | rfl
          all_goals
            by_cases g3 : i + m < off
            · have g3' : (i : Int) + (m : Int) < (off : Int) := by omega
              go_wp2_with fail
              go_roundw
              case rel =>
                obtain ⟨P2, h1, h2, h3, h4⟩ := sc_line (j := i + m) HS.out TL.out HL1.out HF1.out rfl
                exact ⟨(i + m), by first | rfl | go_num, P2, h1, h2, h3, h4, by omega, by omega⟩
              case measure => simp only [numOf]; omega
            · have g3' : ¬ (i : Int) + (m : Int) < (off : Int) := by omega
              have OF := Lib.hid (show (i + m) = off by omega)
              go_wp2_with fail
              go_end0
              obtain ⟨P2, h1, h2, h3, h4⟩ := sc_line (j := i + m) HS.out TL.out HL1.out HF1.out rfl
              exact sc_end (i := (i + m)) ⟨h1, h2, h3, h4⟩ OF.out rfl
        · have t1 : ((c : Int) == 10) = false := beq_eq_false_iff_ne.2 (by omega)
          have t2 : ((c : Int) == 13) = false := beq_eq_false_iff_ne.2 (by omega)
          have t3 : ((c : Int) == 8232) = false := beq_eq_false_iff_ne.2 (by omega)
          have t4 : ((c : Int) == 8233) = false := beq_eq_false_iff_ne.2 (by omega)
          have PN := Lib.hid (PL.out (by omega) (by unfold nlU; simp; omega))
          clear g1 g4
          by_cases g3 : i + m < off
          · have g3' : (i : Int) + (m : Int) < (off : Int) := by omega
            go_wp2_with fail
            go_roundw
            case rel =>
              obtain ⟨P2, h1, h2, h3, h4⟩ := sc_none HS.out PN.out HL1.out HF1.out
              exact ⟨(i + m), by first | rfl | go_num, P2, h1, h2, h3, h4, by omega, by omega⟩
            case measure => simp only [numOf]; omega
          · have g3' : ¬ (i : Int) + (m : Int) < (off : Int) := by omega
            have OF := Lib.hid (show (i + m) = off by omega)
            go_wp2_with fail
            go_end0
            obtain ⟨P2, h1, h2, h3, h4⟩ := sc_none HS.out PN.out HL1.out HF1.out
            exact sc_end (i := (i + m)) ⟨h1, h2, h3, h4⟩ OF.out rfl
  · obtain rfl : k = off := by omega
    go_enter Tryz.func145, Tryz.ntmps145
    go_wp2_with fail
    go_end0
    exact ⟨rfl, P, SameT.refl P, HP.out, HL.out, Fr.refl _ _⟩
end Go.Proofs.YtmgkccnfhkcncaaGreatDoor

namespace Go.Proofs.YtmgkccnfhkcncaaGreatDoor
open Go

/-- The bytes of a code point that has more than one. -/
theorem multi {l : List UInt8} (h : 2 ≤ widB l) : ∀ i, i < widB l → ∃ x, l[i]? = some x ∧ 128 ≤ x.toNat := by
  have hne : l ≠ [] := by
    rintro rfl
    exact absurd h (by decide)
  have e : widB l = (Lib.decodeL l).2 := by
    unfold widB decG
    rw [if_neg hne]
  rw [e] at h ⊢
  have hv := Lib.encode_decode l hne (by omega)
  have hlen : (Lib.decodeL l).2 ≤ l.length := Lib.decodeL_le l hne
  have hc : 128 ≤ (Lib.decodeL l).1 := by
    by_cases hc : (Lib.decodeL l).1 < 128
    · exfalso
      have h1 : enc (Lib.decodeL l).1 = l.take (Lib.decodeL l).2 := hv
      have h2 := congrArg List.length h1
      rw [enc_ascii _ hc, List.length_take, List.length_singleton] at h2
      omega
    · omega
  intro i hi
  have h1 : enc (Lib.decodeL l).1 = l.take (Lib.decodeL l).2 := hv
  obtain ⟨x, hx⟩ : ∃ x, l[i]? = some x := ⟨_, List.getElem?_eq_getElem (by omega)⟩
  refine ⟨x, hx, enc_high _ hc x ?_⟩
  rw [h1]
  refine List.mem_of_getElem? (i := i) ?_
  rw [List.getElem?_take, if_pos hi]
  exact hx
theorem bd_at {s : ByteArray} {k : Nat} (hk : k ≤ s.size) (h : ∀ q, q < k → 2 ≤ widB (s.data.toList.drop q) → q + widB (s.data.toList.drop q) ≤ k) : Bd s k := by
  refine ⟨hk, fun q hq => ?_⟩
  rcases Nat.lt_or_ge (widB (s.data.toList.drop q)) 2 with h1 | h1
  · omega
  · exact h q hq h1
/-- Ahead of an ASCII byte, and at the end. -/
theorem bd_head {s : ByteArray} {k : Nat} {r : List UInt8} (hA : AtB s k r) (h : hdB r < 128) : Bd s k := by
  refine bd_at hA.le fun q hq hw => ?_
  rcases Nat.lt_or_ge k (q + widB (s.data.toList.drop q)) with h1 | h1
  · exfalso
    obtain ⟨x, hx, hx2⟩ := multi hw (k - q) (by omega)
    rw [List.getElem?_drop, show q + (k - q) = k by omega] at hx
    have h2 : r[0]? = some x := by rw [← hA.drop, List.getElem?_drop, Nat.add_zero]; exact hx
    cases r with
    | nil => simp at h2
    | cons y t =>
      have h3 : y = x := by simpa using h2
      subst h3
      have := hdB_high (t := t) hx2
      omega
  · exact h1
/-- Behind an ASCII byte, and at the beginning. -/
theorem bd_behind {s : ByteArray} {k : Nat} {r : List UInt8} (hA : AtB s k r) (h : 0 ≤ hdB r ∧ hdB r < 128) : Bd s (k + widB r) := by
  obtain ⟨c, hc⟩ : ∃ c : Nat, hdB r = (c : Int) := ⟨(hdB r).toNat, by omega⟩
  obtain ⟨x, t, rfl, hx, ht, hw1⟩ := hdB_low hc (by omega)
  have hle := hA.wle
  rw [hw1] at hle ⊢
  refine bd_at hle fun q hq hw => ?_
  rcases Nat.lt_or_ge (k + 1) (q + widB (s.data.toList.drop q)) with h1 | h1
  · exfalso
    obtain ⟨y, hy, hy2⟩ := multi hw (k - q) (by omega)
    rw [List.getElem?_drop, show q + (k - q) = k by omega] at hy
    have h2 : (x :: t)[0]? = some y := by rw [← hA.drop, List.getElem?_drop, Nat.add_zero]; exact hy
    have h3 : x = y := by simpa using h2
    subst h3
    omega
  · exact h1
end Go.Proofs.YtmgkccnfhkcncaaGreatDoor

namespace Go.Proofs.YtmgkccnfhkcncaaGreatDoor
open Go.RowKit
attribute [local go_sem ↓] Go.wp_at_zero Go.wp_at_succ

theorem results4 {P : Program} {fn : Func} {p q r t : Tmp} (h : fn.results = #[.tmp p, .tmp q, .tmp r, .tmp t]) (tmps : Array Value) (w : World) :
    (results fn tmps).run P w = .ok (.tuple #[tmps.getD p undef, tmps.getD q undef, tmps.getD r undef, tmps.getD t undef]) w := by
  simp [results, h]
/-- The lexer's block with its tracker at a place. -/
def TkAt (b : Nat) (P : Nat → Option Value) (s : ByteArray) (off : Nat) (n cur cp st ln uo kd fl : Int) (w w' : World) : Prop :=
  ∃ P', SameT P P' ∧ TrkP P' s off ∧ LB b P' n cur cp st ln uo kd fl w' ∧ Fr b w w'
/-- What computeLineAndColumn's caller sees. -/
def CoP (b : Nat) (P : Nat → Option Value) (s : ByteArray) (off : Nat) (n cur cp st ln uo kd fl : Int) (w : World) (e : Ending) (w' : World) : Prop :=
  (∃ (x y : Int) (a z : Nat), e = .returned (.tuple #[.int .i64 x, .int .i64 y, .int .i64 (a : Int), .int .i64 (z : Int)]) ∧ a ≤ z ∧ z ≤ s.size) ∧ TkAt b P s off n cur cp st ln uo kd fl w w'
theorem trk_end {P : Nat → Option Value} {s : ByteArray} {off i : Nat} (h : TrkP P s off) (hi : i + (eolB (s.data.toList.drop off)).length = s.size) : TrkP (updP (updP P 30 (.bool true)) 28 (.int .i32 (i : Int))) s off := by
  obtain ⟨⟨p22, p23, p24, p26, p29, p31, a, e, he, p27, p28, p30, ha, hh⟩, p25⟩ := h
  exact ⟨⟨p22, p23, p24, p26, p29, p31, a, i, true, p27, rfl, rfl, ha, fun _ => hi⟩, p25⟩
theorem trk_vals {P : Nat → Option Value} {s : ByteArray} {off : Nat} (h : TrkP P s off) : ∃ (l : Int) (a e : Nat) (he : Bool), P 22 = some (.string s) ∧ P 23 = some (.string ⟨#[]⟩) ∧ P 24 = some (.string ⟨#[]⟩) ∧ P 25 = some (.int .i32 (off : Int)) ∧ P 26 = some (.int .i32 l) ∧ P 27 = some (.int .i32 (a : Int)) ∧ P 28 = some (.int .i32 (e : Int)) ∧ P 29 = some (.bool true) ∧ P 30 = some (.bool he) ∧ P 31 = some (.bool true) ∧ a ≤ off ∧ (he = true → e + (eolB (s.data.toList.drop off)).length = s.size) := by
  obtain ⟨⟨p22, p23, p24, ⟨l, p26⟩, p29, p31, a, e, he, p27, p28, p30, ha, hh⟩, p25⟩ := h
  exact ⟨l, a, e, he, p22, p23, p24, p25, p26, p27, p28, p29, p30, p31, ha, hh⟩
theorem eol_le (s : ByteArray) (off : Nat) : (eolB (s.data.toList.drop off)).length ≤ s.size - off := by
  have h := (eolB_suf (s.data.toList.drop off)).length_le
  rw [List.length_drop] at h
  exact h

theorem co_end {b : Nat} {P P1 : Nat → Option Value} {s : ByteArray} {off i a : Nat} {n cur cp st ln uo kd fl x y : Int} {w w2 : World} (hS : SameT P P1) (hP : TrkP P1 s off) (hL : LB b P1 n cur cp st ln uo kd fl w2) (hF : Fr b w w2) (hi : i + (eolB (s.data.toList.drop off)).length = s.size) (hai : a ≤ i) (hiz : i ≤ s.size) :
    CoP b P s off n cur cp st ln uo kd fl w (.returned (.tuple #[.int .i64 x, .int .i64 y, .int .i64 (a : Int), .int .i64 (i : Int)])) (((w2.setCell ⟨b, 30, none⟩ (.bool true)).setCell ⟨b, 28, none⟩ (.int .i32 (i : Int))).drew) :=
  ⟨⟨x, y, a, i, rfl, hai, hiz⟩, _, (hS.trans (SameT.upd _ 30 _ (by omega))).trans (SameT.upd _ 28 _ (by omega)), trk_end hP hi, ((hL.setP 30 (by omega) _).setP 28 (by omega) _).of rfl, ((hF.trans (Fr.setCell _ 30 _)).trans (Fr.setCell _ 28 _)).trans (Fr.drewN b 1 _)⟩
set_option maxHeartbeats 8000000 in
set_option maxRecDepth 1000000 in
theorem compI (b : Nat) (P : Nat → Option Value) (s : ByteArray) (k off : Nat) (n cur cp st ln uo kd fl : Int) (w : World) (hTB : TB b w) (hP : TrkP P s k) (hL : LB b P n cur cp st ln uo kd fl w) (hs : s.size ≤ 1073741824) (hko : k ≤ off) (hB : Bd s off) :
    Calls Tryz.prog 143 #[.pointer (some ⟨b, 22, none⟩), .int .i64 (off : Int)] w fun e w' => CoP b P s off n cur cp st ln uo kd fl w e w' := by
  have SC := Lib.hid (scanI b P s k off n cur cp st ln uo kd fl w hTB hP hL hs hko hB)
  have hoz := hB.1
  have HT := Lib.hid hTB
  have D := Lib.hid (fun (k : Nat) (r : List UInt8) (h : AtB s k r) (w : World) hT => decodeAt h w hT)
  have wo : IntKind.i32.wrap (off : Int) = (off : Int) := IntWalk.i32_in _ (by omega)
  clear hTB hP hL hko hB
  go_enter Tryz.func143, Tryz.ntmps143
  go_wp2_with fail
  refine (SC.out).mono ?_
  rintro e w1 ⟨rfl, P1, hS, hP1, hL1, hF⟩
  obtain ⟨l, a, e, he, p22, p23, p24, p25, p26, p27, p28, p29, p30, p31, ha, hh⟩ := trk_vals hP1
  have c22 := (hL1.p 22 (by omega)).trans p22
  have c25 := (hL1.p 25 (by omega)).trans p25
  have c26 := (hL1.p 26 (by omega)).trans p26
  have c27 := (hL1.p 27 (by omega)).trans p27
  have c28 := (hL1.p 28 (by omega)).trans p28
  have c29 := (hL1.p 29 (by omega)).trans p29
  have c30 := (hL1.p 30 (by omega)).trans p30
  have z28 := hL1.fz 28
  have z30 := hL1.fz 30
  have HP1 := Lib.hid hP1
  have HL1 := Lib.hid hL1
  have HF := Lib.hid hF
  have HS := Lib.hid hS
  have HH := Lib.hid hh
  clear hP1 hL1 hF hS p22 p23 p24 p25 p26 p27 p28 p29 p30 p31 hh
  have hel := eol_le s off
  cases he with
  | true =>
    have he2 := HH.out rfl
    have EL := Lib.hid hel
    have E2 := Lib.hid he2
    have hez : (e : Int) ≤ (s.size : Int) := by omega
    have hae : a ≤ e := by omega
    have hez' : e ≤ s.size := by omega
    clear hel he2
    go_wp2_with fail
    go_region
    all_goals go_wp2_with fail
    refine bodyPost_ret (results4 rfl _ _) rfl ?_
    exact ⟨⟨_, _, a, e, rfl, hae, hez'⟩, P1, HS.out, HP1.out, HL1.out.of rfl, HF.out.trans (Fr.drewN b 1 _)⟩
  | false =>
    have EL := Lib.hid hel
    clear hel
    have hszi : (s.size : Int) ≤ 1073741824 := by omega
    go_upto_region 15 with fail
    go_loopw [13] (fun iv wr => ∃ i : Nat, iv = .int .i32 (i : Int) ∧ off ≤ i ∧ i ≤ s.size ∧ eolB (s.data.toList.drop i) = eolB (s.data.toList.drop off) ∧ LB b P1 n cur cp st ln uo kd fl wr ∧ Fr b w wr) (fun iv _ => s.size - (numOf (some iv)).toNat)
    case atStart => exact ⟨off, rfl, Nat.le_refl _, hoz, rfl, HL1.out, HF.out⟩
    case round =>
      obtain ⟨i, rfl, hoi, hiz, heq, hL, hFr⟩ := hrel
      obtain ⟨r, hr⟩ : ∃ r, s.data.toList.drop i = r := ⟨_, rfl⟩
      have hA : AtB s i r := ⟨hr, hiz⟩
      have HA := Lib.hid hA
      have HE := Lib.hid heq
      have HL := Lib.hid hL
      have HFR := Lib.hid hFr
      have HR := Lib.hid hr
      obtain ⟨l, a, e, he, p22, p23, p24, p25, p26, p27, p28, p29, p30, p31, ha, -⟩ := trk_vals HP1.out
      have d26 := (hL.p 26 (by omega)).trans p26
      have d27 := (hL.p 27 (by omega)).trans p27
      have d28 := (hL.p 28 (by omega)).trans p28
      have d30 := (hL.p 30 (by omega)).trans p30
      have y28 := hL.fz 28
      have y30 := hL.fz 30
      have hlt := hL.lt
      have hai : a ≤ i := by omega
      clear p22 p23 p24 p25 p26 p27 p28 p29 p30 p31 hA heq hL hFr hr c22 c25 c26 c27 c28 c29 c30 z28 z30
      by_cases g1 : i < s.size
      · have g1' : (i : Int) < (s.size : Int) := by omega
        have hne : r ≠ [] := by
          rintro rfl
          have := HA.out.size
          simp at this
          omega
        have hm1 := widB_pos hne
        have hbd := HA.out.wle
        have hc : hdB r = ((decG r).1 : Int) := hdB_decG hm1
        have hcr := (decG_range r).1
        have hgo : hdB r ≠ -1 → nlU (hdB r) = false → eolB (s.data.toList.drop (i + widB r)) = eolB (s.data.toList.drop off) := fun h1 h2 => by
          rw [← HE.out, HR.out, eolB_go h1 h2, HA.out.tail.drop]
        have hst : nlU (hdB r) = true → i + (eolB (s.data.toList.drop off)).length = s.size := fun h => by
          rw [← HE.out, HR.out, eolB_stop (.inr h)]
          exact HA.out.size
        have DD := Lib.hid (D.out i r HA.out)
        have hi0 : (0 : Int) ≤ (i : Int) := by omega
        have hi1 : (i : Int) ≤ (s.size : Int) := by omega
        have HGO := Lib.hid hgo
        have HST := Lib.hid hst
        obtain ⟨m, hm⟩ : ∃ m, widB r = m := ⟨_, rfl⟩
        obtain ⟨c, hcc⟩ : ∃ c, (decG r).1 = c := ⟨_, rfl⟩
        rw [hcc] at hc hcr DD
        rw [hm] at hm1 hbd HGO DD
        rw [hc] at HGO HST
        clear hgo hst hcc hm hc hne
        have HT2 := Lib.hid (HT.out.fr HFR.out)
        go_wp2_with fail
        refine (DD.out _ HT2.out.tabs).mono ?_
        rintro e' w2 ⟨rfl, hb2⟩
        have HL2 := Lib.hid (HL.out.of (hb2.block b hlt))
        have HF2 := Lib.hid (HFR.out.trans (Fr.of hb2))
        have f26 := (hb2.cell (p := ⟨b, 26, none⟩) hlt).trans d26
        have f27 := (hb2.cell (p := ⟨b, 27, none⟩) hlt).trans d27
        have f28 := (hb2.cell (p := ⟨b, 28, none⟩) hlt).trans d28
        have f30 := (hb2.cell (p := ⟨b, 30, none⟩) hlt).trans d30
        have x28 := (hb2.frozen (p := ⟨b, 28, none⟩) hlt).trans y28
        have x30 := (hb2.frozen (p := ⟨b, 30, none⟩) hlt).trans y30
        clear hb2 d26 d27 d28 d30 y28 y30
        by_cases g2 : c = 10 ∨ c = 13 ∨ c = 8232 ∨ c = 8233
        · have HE2 := Lib.hid (HST.out (by unfold nlU; simp; omega))
          rcases g2 with rfl | rfl | rfl | rfl
          all_goals
            go_wp2_with fail
            go_region
            all_goals go_wp2_with fail
            refine bodyPost_ret (results4 rfl _ _) rfl ?_
            exact co_end HS.out HP1.out HL2.out HF2.out HE2.out hai hiz
        · have t1 : ((c : Int) == 10) = false := beq_eq_false_iff_ne.2 (by omega)
          have t2 : ((c : Int) == 13) = false := beq_eq_false_iff_ne.2 (by omega)
          have t3 : ((c : Int) == 8232) = false := beq_eq_false_iff_ne.2 (by omega)
          have t4 : ((c : Int) == 8233) = false := beq_eq_false_iff_ne.2 (by omega)
          have HN := Lib.hid (HGO.out (by omega) (by unfold nlU; simp; omega))
          clear g2
          go_wp2_with fail
          go_roundw
          case rel => exact ⟨i + m, by go_num, by omega, by omega, HN.out, HL2.out, HF2.out⟩
          case measure => simp only [numOf]; omega
      · obtain rfl : i = s.size := by omega
        have g1' : ¬ (s.size : Int) < (s.size : Int) := by omega
        have HE2 := Lib.hid (show s.size + (eolB (s.data.toList.drop off)).length = s.size by
          rw [← HE.out, HR.out]
          have := HA.out.size
          have hr0 : r = [] := List.eq_nil_of_length_eq_zero (by omega)
          rw [hr0, eolB_stop (.inl rfl)]; rfl)
        go_wp2_with fail
        go_region
        all_goals go_wp2_with fail
        refine bodyPost_ret (results4 rfl _ _) rfl ?_
        exact co_end HS.out HP1.out HL.out HFR.out HE2.out hai (Nat.le_refl _)
end Go.Proofs.YtmgkccnfhkcncaaGreatDoor

namespace Go.Proofs.YtmgkccnfhkcncaaGreatDoor
open Go.RowKit
attribute [local go_sem ↓] Go.wp_at_zero Go.wp_at_succ

theorem TkAt.more {b : Nat} {P : Nat → Option Value} {s : ByteArray} {off : Nat} {n cur cp st ln uo kd fl : Int} {w w1 w2 : World} (h : TkAt b P s off n cur cp st ln uo kd fl w w1) (hb : Below w1.heap.size w1 w2) : TkAt b P s off n cur cp st ln uo kd fl w w2 := by
  obtain ⟨P', h1, h2, h3, h4⟩ := h
  exact ⟨P', h1, h2, h3.of (hb.block b h3.lt), h4.trans (Fr.of hb)⟩
set_option maxHeartbeats 8000000 in
set_option maxRecDepth 1000000 in
theorem mlocI (b : Nat) (P : Nat → Option Value) (s : ByteArray) (k off : Nat) (n cur cp st ln uo kd fl len : Int) (w : World) (hTB : TB b w) (hP : TrkP P s k) (hL : LB b P n cur cp st ln uo kd fl w) (hs : s.size ≤ 1073741824) (hko : k ≤ off) (hB : Bd s off) (hl0 : -2147483648 ≤ len) (hl1 : len ≤ 2147483647) :
    Calls Tryz.prog 137 #[.pointer (some ⟨b, 22, none⟩), .agg #[.int .i32 (off : Int), .int .i32 len]] w fun e w' => (∃ g, e = .returned (.pointer (some ⟨g, 0, none⟩))) ∧ TkAt b P s off n cur cp st ln uo kd fl w w' := by
  have C := Lib.hid (fun w hTB hL => compI b P s k off n cur cp st ln uo kd fl w hTB hP hL hs hko hB)
  have hoz := hB.1
  have HT := Lib.hid hTB
  have HL := Lib.hid hL
  obtain ⟨l, a, e, he, p22, p23, p24, p25, p26, p27, p28, p29, p30, p31, ha, -⟩ := trk_vals hP
  have c31 := (hL.p 31 (by omega)).trans p31
  have hlt := hL.lt
  have wo : IntKind.i64.wrap (off : Int) = (off : Int) := IntWalk.i64_in _ (by omega)
  clear hTB hL hP hko hB p22 p23 p24 p25 p26 p27 p28 p29 p30 p31
  go_enter Tryz.func137, Tryz.ntmps137
  go_wp2_with fail
  have FA := Lib.hid (Fr.of (b := b) ((Below.refl w.heap.size w).alloc (Nat.le_refl _) (.cells #[.int .i32 (off : Int), .int .i32 len] 55)))
  refine (C.out _ (HT.out.fr FA.out) (HL.out.of (FA.out.block b hlt |> fun h => Below.heap_alloc _ _ _ hlt))).mono ?_
  rintro e' w1 ⟨⟨x, y, a1, z1, rfl, haz, hzs⟩, P1, hS, hP1, hL1, hF⟩
  obtain ⟨l1, a2, e2, he2, p22, p23, p24, p25, p26, p27, p28, p29, p30, p31, ha2, -⟩ := trk_vals hP1
  have c22 := (hL1.p 22 (by omega)).trans p22
  have c23 := (hL1.p 23 (by omega)).trans p23
  have c24 := (hL1.p 24 (by omega)).trans p24
  have hr : w1.heap[w.heap.size]? = some (.cells #[.int .i32 (off : Int), .int .i32 len] 55 (0, 0)) := (hF.block _ (by simp) (by omega)).trans (heap_alloc_new w _)
  have r1 : w1.cell? ⟨w.heap.size, 1, none⟩ = some (.int .i32 len) := by rw [Lib.cell_of_heap hr]; rfl
  have HE := Lib.hid (show TkAt b P s off n cur cp st ln uo kd fl w w1 from ⟨P1, hS, hP1, hL1, FA.out.trans hF⟩)
  have haz1 : (a1 : Int) ≤ (z1 : Int) := by omega
  have hzs1 : (z1 : Int) ≤ (s.size : Int) := by omega
  have ha0 : (0 : Int) ≤ (a1 : Int) := by omega
  clear hS hP1 hL1 hF p22 p23 p24 p25 p26 p27 p28 p29 p30 p31 hr c31 HL HT FA C
  go_wp2_with fail
  go_region
  all_goals go_wp2_with fail
  go_ret
  exact ⟨⟨_, rfl⟩, HE.out.more (Below.drew ((Below.refl _ _).alloc (Nat.le_refl _) _))⟩

theorem infoMD : (Tryz.prog.info? 113).map (·.size) = some 4 := by kernel_rfl
theorem TkAt.put {b : Nat} {P : Nat → Option Value} {s : ByteArray} {off : Nat} {n cur cp st ln uo kd fl : Int} {w w1 : World} (h : TkAt b P s off n cur cp st ln uo kd fl w w1) {H : Nat} (hH : w.heap.size ≤ H) (hb : H ≠ b) (i : Nat) (v : Value) : TkAt b P s off n cur cp st ln uo kd fl w (w1.setCell ⟨H, i, none⟩ v) := by
  obtain ⟨P', h1, h2, h3, h4⟩ := h
  have hk : ∀ k, k ≠ H → (w1.setCell ⟨H, i, none⟩ v).heap[k]? = w1.heap[k]? := fun k hk => by
    simp only [World.setCell, Array.getElem?_modify, if_neg (Ne.symm hk)]
  refine ⟨P', h1, h2, h3.of (hk b (Ne.symm hb)), ⟨h4.os, h4.tape, h4.output, ?_, fun k hk1 hk2 => (hk k (by omega)).trans (h4.block k hk1 hk2)⟩⟩
  simpa [World.setCell] using h4.size
theorem TkAt.put4 {b : Nat} {P : Nat → Option Value} {s : ByteArray} {off : Nat} {n cur cp st ln uo kd fl : Int} {w w1 : World} (h : TkAt b P s off n cur cp st ln uo kd fl w w1) {H : Nat} (hH : w.heap.size ≤ H) (hb : H ≠ b) (v0 v1 v2 v3 : Value) :
    TkAt b P s off n cur cp st ln uo kd fl w ((((w1.setCell ⟨H, 0, none⟩ v0).setCell ⟨H, 1, none⟩ v1).setCell ⟨H, 2, none⟩ v2).setCell ⟨H, 3, none⟩ v3) :=
  (((h.put hH hb 0 v0).put hH hb 1 v1).put hH hb 2 v2).put hH hb 3 v3
set_option maxHeartbeats 8000000 in
set_option maxRecDepth 1000000 in
theorem msgdI (b : Nat) (P : Nat → Option Value) (s : ByteArray) (k off : Nat) (n cur cp st ln uo kd fl len : Int) (tx : ByteArray) (w : World) (hTB : TB b w) (hP : TrkP P s k) (hL : LB b P n cur cp st ln uo kd fl w) (hs : s.size ≤ 1073741824) (hko : k ≤ off) (hB : Bd s off) (hl0 : -2147483648 ≤ len) (hl1 : len ≤ 2147483647) :
    Calls Tryz.prog 120 #[.pointer (some ⟨b, 22, none⟩), .agg #[.int .i32 (off : Int), .int .i32 len], .string tx] w fun e w' => (∃ g, e = .returned (.agg #[.nilIface, .pointer (some ⟨g, 0, none⟩), .string tx, .bool false])) ∧ TkAt b P s off n cur cp st ln uo kd fl w w' := by
  have C := Lib.hid (fun w hTB hL => mlocI b P s k off n cur cp st ln uo kd fl len w hTB hP hL hs hko hB hl0 hl1)
  have HT := Lib.hid hTB
  have HL := Lib.hid hL
  have hlt := hL.lt
  clear hTB hL hP hko hB
  go_enter Tryz.func120, Tryz.ntmps120
  go_wp2_with fail
  obtain ⟨H, hH⟩ : ∃ H, w.heap.size + 1 = H := ⟨_, rfl⟩
  obtain ⟨wB, hwB⟩ : ∃ x, (w.alloc (.cells #[.int .i32 (off : Int), .int .i32 len] 55)).alloc (.cells #[.nilIface, .pointer none, .string ⟨#[]⟩, .bool false] 113) = x := ⟨_, rfl⟩
  have BB : Below w.heap.size w wB := by rw [← hwB]; exact ((Below.refl _ _).alloc (Nat.le_refl _) _).alloc (by simp) _
  have hK : wB.heap[H]? = some (.cells #[.nilIface, .pointer none, .string ⟨#[]⟩, .bool false] 113 (0, 0)) := by
    have h := heap_alloc_new (w.alloc (.cells #[.int .i32 (off : Int), .int .i32 len] 55)) (.cells #[.nilIface, .pointer none, .string ⟨#[]⟩, .bool false] 113)
    rw [hwB] at h
    rw [← h, ← hH]; simp
  have hHb : b < H := by omega
  have hHz : w.heap.size ≤ H := by omega
  rw [hwB, hH]
  clear hwB hH
  refine (C.out wB (HT.out.fr (Fr.of BB)) (HL.out.of (BB.block b hlt))).mono ?_
  rintro e w1 ⟨⟨g, rfl⟩, hK1⟩
  have hK2 : w1.heap[H]? = some (.cells #[.nilIface, .pointer none, .string ⟨#[]⟩, .bool false] 113 (0, 0)) := by
    obtain ⟨P', -, -, -, hf⟩ := hK1
    exact (hf.block H (Array.getElem?_eq_some_iff.1 hK).1 (by omega)).trans hK
  have k0 : w1.cell? ⟨H, 0, none⟩ = some .nilIface := by rw [Lib.cell_of_heap hK2]; rfl
  have k1 : w1.cell? ⟨H, 1, none⟩ = some (.pointer none) := by rw [Lib.cell_of_heap hK2]; rfl
  have k2 : w1.cell? ⟨H, 2, none⟩ = some (.string ⟨#[]⟩) := by rw [Lib.cell_of_heap hK2]; rfl
  have k3 : w1.cell? ⟨H, 3, none⟩ = some (.bool false) := by rw [Lib.cell_of_heap hK2]; rfl
  have f0 := Lib.frozen_of_heap hK2 0
  have f1 := Lib.frozen_of_heap hK2 1
  have f2 := Lib.frozen_of_heap hK2 2
  have f3 := Lib.frozen_of_heap hK2 3
  have HPUT := Lib.hid (heap_put (heap_put (heap_put (heap_put hK2 0 .nilIface) 1 (.pointer (some ⟨g, 0, none⟩))) 2 (.string tx)) 3 (.bool false))
  have HTK := Lib.hid (show TkAt b P s off n cur cp st ln uo kd fl w w1 by obtain ⟨P', h1, h2, h3, h4⟩ := hK1; exact ⟨P', h1, h2, h3, (Fr.of BB).trans h4⟩)
  clear hK hK1 hK2 BB
  go_wp2_with fail
  refine bodyPost_ret (results_cell_row (P := Tryz.prog) rfl _ _ H _ #[.nilIface, .pointer (some ⟨g, 0, none⟩), .string tx, .bool false] _ _ rfl HPUT.out Tryz.underlying113 rfl infoMD) rfl ?_
  exact ⟨⟨g, rfl⟩, HTK.out.put4 hHz (by omega) _ _ _ _⟩
end Go.Proofs.YtmgkccnfhkcncaaGreatDoor
