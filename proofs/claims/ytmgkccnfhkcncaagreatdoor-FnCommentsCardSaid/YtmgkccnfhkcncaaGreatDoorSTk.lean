/-
  What the reference's lexer appends to: a row of its own, and what stays as it was. The reference's lexer: comments. The reference's lexer: does a number begin; the next token. The reference's lexer: the next token. The reference's lexer: the next token, ahead of a code point. The reference: all tokens of a plain text.
-/
import Derived.Test.YtmgkccnfhkcncaaGreatDoorSNd
import Derived.Test.YtmgkccnfhkcncaaGreatDoorMK
import Derived.Deep.AppendLies
import Derived.Deep.RegionLaw
import Derived.Deep.DeepCutAuto
import Derived.Deep.CutBlock
namespace Go.Proofs.YtmgkccnfhkcncaaGreatDoor
open Go.RowKit

/-- All blocks that stood, but block b and a row, stand as they stood. -/
structure Fc (b : Nat) (row : Option Nat) (w w' : World) : Prop where
  os : w'.os = w.os
  tape : w'.tape = w.tape
  output : w'.output = w.output
  size : w.heap.size ≤ w'.heap.size
  block : ∀ k, k < w.heap.size → k ≠ b → some k ≠ row → w'.heap[k]? = w.heap[k]?
theorem Fr.fc {b : Nat} {w w' : World} (h : Fr b w w') (row : Option Nat) : Fc b row w w' := ⟨h.os, h.tape, h.output, h.size, fun k hk hb _ => h.block k hk hb⟩
theorem Fc.grown {w w' : World} {row : Option Nat} (h : w.grownBy w' row) (b : Nat) : Fc b row w w' := ⟨h.os, h.tape, h.output, h.size, fun k hk _ hr => h.block k hk hr⟩
theorem Fc.refl (b : Nat) (row : Option Nat) (w : World) : Fc b row w w := (Fr.refl b w).fc row
/-- The row as it was, or one that was made since. -/
def NewRow (w : World) (r r' : Option Nat) : Prop := r' = r ∨ ∃ g, r' = some g ∧ w.heap.size ≤ g
theorem NewRow.refl (w : World) (r : Option Nat) : NewRow w r r := Or.inl rfl
theorem NewRow.trans {u v : World} {r r' r'' : Option Nat} (h : NewRow u r r') (k : NewRow v r' r'') (hs : u.heap.size ≤ v.heap.size) : NewRow u r r'' := by
  rcases k with rfl | ⟨g, rfl, hg⟩
  · exact h
  · exact Or.inr ⟨g, rfl, Nat.le_trans hs hg⟩
theorem Fc.trans {b : Nat} {r r' : Option Nat} {u v w : World} (h : Fc b r u v) (hr : NewRow u r r') (k : Fc b r' v w) : Fc b r u w :=
  ⟨k.os.trans h.os, k.tape.trans h.tape, k.output.trans h.output, Nat.le_trans h.size k.size, fun i hi hb hne =>
    (k.block i (Nat.lt_of_lt_of_le hi h.size) hb (by
      rcases hr with rfl | ⟨g, rfl, hg⟩
      · exact hne
      · intro e; injection e with e; omega)).trans (h.block i hi hb hne)⟩
theorem Fc.fr {b : Nat} {r : Option Nat} {u v w : World} (h : Fc b r u v) (k : Fr b v w) : Fc b r u w := h.trans (NewRow.refl _ _) (k.fc r)
theorem Fc.below {b B : Nat} {row : Option Nat} {w w' : World} (h : Fc b row w w') (hB : B ≤ b) (hBw : B ≤ w.heap.size) (hr : ∀ k, row = some k → B ≤ k) : Below B w w' :=
  ⟨h.os, h.tape, h.output, h.size, fun k hk => h.block k (Nat.lt_of_lt_of_le hk hBw) (by omega) (by intro e; have := hr k e.symm; omega)⟩
theorem row_fc {w w' : World} {base : Nat} {e : TypeId} {size : Nat} {v : Value} {n : Nat} {xs : List Value} {b : Nat} {row : Option Nat} (h : w.ownsRow base e size v n xs) (f : Fc b row w w') (hb : b < base) (hne : v.ownBlock = none ∨ v.ownBlock ≠ row) : w'.ownsRow base e size v n xs := by
  refine ⟨h.1, ?_⟩
  rcases h.2 with hn | ⟨g, cap, cur, rfl, hg, hgg, rest⟩
  · exact .inl hn
  · refine .inr ⟨g, cap, cur, rfl, hg, ?_, rest⟩
    rw [f.block g (Array.getElem?_eq_some_iff.1 hgg).1 (by omega) (by simpa [Value.ownBlock] using hne)]
    exact hgg
theorem row_fr {w w' : World} {base : Nat} {e : TypeId} {size : Nat} {v : Value} {n : Nat} {xs : List Value} {b : Nat} (h : w.ownsRow base e size v n xs) (f : Fr b w w') (hb : b < base) : w'.ownsRow base e size v n xs :=
  row_fc h (f.fc none) hb (by cases v.ownBlock <;> simp)
theorem row_set {w : World} {base : Nat} {e : TypeId} {size : Nat} {v : Value} {n : Nat} {xs : List Value} (h : w.ownsRow base e size v n xs) {b i : Nat} (hb : b < base) (u : Value) : (w.setCell ⟨b, i, none⟩ u).ownsRow base e size v n xs := row_fr h (Fr.setCell w i u) hb
theorem SR.grown {b : Nat} {s : ByteArray} {l : List Nat} {cv : Value} {o : Bool} {w w' : World} {row : Option Nat} (h : SR b s l cv o w) (g : w.grownBy w' row) (hb : some b ≠ row) : SR b s l cv o w' := by
  have hlt := h.lt
  obtain ⟨k, hA, hL⟩ := h
  refine ⟨k, hA, ?_⟩
  unfold SL at *
  rw [g.block b hlt hb, hL]
theorem SR.setComments {b : Nat} {s : ByteArray} {l : List Nat} {cv : Value} {o : Bool} {w : World} (h : SR b s l cv o w) (cv' : Value) : SR b s l cv' o (w.setCell ⟨b, 2, none⟩ cv') := by
  obtain ⟨k, hA, hL⟩ := h
  exact ⟨k, hA, hL.setComments cv'⟩
/-- The row of a value that owns something from base on is none of what lies below. -/
theorem row_ne {w : World} {base : Nat} {e : TypeId} {size : Nat} {v : Value} {n : Nat} {xs : List Value} (h : w.ownsRow base e size v n xs) {b : Nat} (hb : b < base) : some b ≠ v.ownBlock := by
  intro e'
  have := (h.lt b e'.symm).1
  omega
theorem new_row {w : World} {r : Option Nat} {g H : Nat} (h : r = some g ∨ g = H) (hH : w.heap.size ≤ H) : NewRow w r (some g) := by
  rcases h with h | rfl
  · exact Or.inl h.symm
  · exact Or.inr ⟨_, rfl, hH⟩
/-- The cells of pieces of a text of so many bytes. -/
def cellsP (z : Nat) (l : List (Nat × Nat)) : List Value := l.flatMap fun p => [.int .i64 ((z - p.1 : Nat) : Int), .int .i64 ((z - p.2 : Nat) : Int)]
theorem cellsP_append (z : Nat) (l m : List (Nat × Nat)) : cellsP z (l ++ m) = cellsP z l ++ cellsP z m := List.flatMap_append ..
/-- The cells of tokens. -/
def cellsT (z : Nat) (l : List Tp) : List Value := l.flatMap fun p => [.int .i64 (p.tk.kind : Int), .int .i64 ((z - p.b : Nat) : Int), .int .i64 ((z - p.e : Nat) : Int), .int .i64 (p.tk.unit : Int), .bool p.tk.id, .string (strOf p.tk.text)]
theorem cellsT_append (z : Nat) (l m : List Tp) : cellsT z (l ++ m) = cellsT z l ++ cellsT z m := List.flatMap_append ..
end Go.Proofs.YtmgkccnfhkcncaaGreatDoor

namespace Go.Proofs.YtmgkccnfhkcncaaGreatDoor
open Go.RowKit

theorem closeS_end (t : List Nat) : closeS (42 :: 47 :: t) = some t := by unfold closeS; rw [if_pos ⟨rfl, rfl⟩]; rfl
theorem closeS_step (c : Nat) (t : List Nat) (h : ¬ (c = 42 ∧ cpAt t 0 = 47)) : closeS (c :: t) = closeS t := by
  have h2 : ¬ (c = 42 ∧ t.head? = some 47) := by
    rintro ⟨h1, h2⟩
    cases t with
    | nil => simp at h2
    | cons d u =>
      simp at h2; subst h2
      exact h ⟨h1, rfl⟩
  conv => lhs; unfold closeS
  rw [if_neg h2]
theorem infoPc : (Tryz.prog.info? 31).map (fun i => (i.zero, i.size, i.bytes)) = some (some (.agg #[.int .i64 0, .int .i64 0]), 2, 16) := by kernel_rfl
/-- The loop of comment. -/
def CRel (b : Nat) (s : ByteArray) (l : List Nat) (o : Bool) (base n : Nat) (xs : List (Nat × Nat)) (row : Option Nat) (W w : World) : Prop :=
  ∃ r cv1 o1 done, SR b s r cv1 o1 w ∧ w.ownsRow base 31 2 cv1 (n + done.length) (cellsP s.size (xs ++ done)) ∧ Fc b row W w ∧ NewRow W row cv1.ownBlock ∧
    done ++ (commS r).1 = (commS l).1 ∧ (commS r).2.1 = (commS l).2.1 ∧ (o1 || (commS r).2.2) = (o || (commS l).2.2) ∧ done.length + r.length ≤ l.length
/-- The loop within a comment. -/
def KRel (b : Nat) (s : ByteArray) (t : List Nat) (cv : Value) (o : Bool) (W w : World) : Prop := ∃ r, SR b s r cv o w ∧ Fr b W w ∧ closeS r = closeS t ∧ r.length ≤ t.length
theorem pc_two (w : World) (x y : Value) (T : TypeId) : ∀ j u, [x, y][j]? = some u → (w.alloc (.cells #[x, y] T)).cell? ((⟨w.heap.size, 0, none⟩ : Addr).add j) = some u :=
  World.news_of_block (cs := #[x, y]) (heap_alloc_new w _)
theorem pc_new (w : World) (R : Nat) (hR : w.heap.size = R) (x y : Value) (T : TypeId) : ∀ j u, [x, y][j]? = some u → (w.alloc (.cells #[x, y] T)).cell? ((⟨R, 0, none⟩ : Addr).add j) = some u := by
  subst hR; exact pc_two w x y T
theorem SR.plus {b : Nat} {s : ByteArray} {l l' : List Nat} {cv : Value} {o : Bool} {w : World} (h : SR b s l cv o w) {k n : Nat} (hA : At s (k + n) l') : SR b s l' cv o (w.setCell ⟨b, 1, none⟩ (.int .i64 ((k : Int) + (n : Int)))) := by
  have := h.setAt hA
  rwa [Int.natCast_add] at this
theorem SR.c2 {b : Nat} {s : ByteArray} {l : List Nat} {cv : Value} {o : Bool} {w : World} (h : SR b s l cv o w) : w.cell? ⟨b, 2, none⟩ = some cv := by
  obtain ⟨k, _, hL⟩ := h
  exact hL.c2
theorem blen_at {s : ByteArray} {k : Nat} {l : List Nat} (h : At s k l) : k = s.size - blen l := by
  have := h.size
  unfold blen; omega
theorem Fr.drew' {b : Nat} {w w' : World} (h : Fr b w w') : Fr b w w'.drew := ⟨h.os, h.tape, h.output, h.size, h.block⟩
/-- A comment that is appended. -/
theorem comm_add {b : Nat} {s : ByteArray} {cv cv1 : Value} {o' : Bool} {r : List Nat} {base n z a e k k2 g cap H : Nat} {xs done : List (Nat × Nat)} {w wo X w3 : World}
    (HF : Fc b cv.ownBlock w wo) (HW : NewRow w cv.ownBlock cv1.ownBlock) (FW : Fr b wo X) (hgrow : X.grownBy w3 cv1.ownBlock) (hat : cv1.ownBlock = some g ∨ g = H) (hH : wo.heap.size ≤ H)
    (hown3 : w3.ownsRow base 31 2 (.slice (some ⟨g, 0, none⟩) (n + done.length + 1) cap) (n + done.length + 1) (cellsP z (xs ++ done) ++ [.int .i64 (k : Int), .int .i64 (k2 : Int)])) (hb : b < base) (hk : k = z - a) (hk2 : k2 = z - e) (S3 : SR b s r cv1 o' w3) :
    SR b s r (.slice (some ⟨g, 0, none⟩) (n + done.length + 1) cap) o' (w3.setCell ⟨b, 2, none⟩ (.slice (some ⟨g, 0, none⟩) (n + done.length + 1) cap)) ∧
    (w3.setCell ⟨b, 2, none⟩ (.slice (some ⟨g, 0, none⟩) (n + done.length + 1) cap)).ownsRow base 31 2 (.slice (some ⟨g, 0, none⟩) (n + done.length + 1) cap) (n + (done ++ [(a, e)]).length) (cellsP z (xs ++ (done ++ [(a, e)]))) ∧
    Fc b cv.ownBlock w (w3.setCell ⟨b, 2, none⟩ (.slice (some ⟨g, 0, none⟩) (n + done.length + 1) cap)) ∧ NewRow w cv.ownBlock (Value.ownBlock (.slice (some ⟨g, 0, none⟩) (n + done.length + 1) cap)) := by
  refine ⟨S3.setComments _, ?_, ?_, ?_⟩
  · have h := row_set hown3 (i := 2) hb (.slice (some ⟨g, 0, none⟩) (n + done.length + 1) cap)
    rw [List.length_append, ← List.append_assoc, cellsP_append, ← Nat.add_assoc]
    subst hk; subst hk2
    exact h
  · exact HF.trans HW (((FW.fc _).trans (NewRow.refl _ _) (Fc.grown hgrow b)).fr (Fr.setCell w3 2 _))
  · exact HW.trans (new_row hat hH) HF.size

set_option maxHeartbeats 8000000 in
set_option maxRecDepth 100000 in
theorem commentL (b : Nat) (s : ByteArray) (l : List Nat) (cv : Value) (o : Bool) (w : World) (base n : Nat) (xs : List (Nat × Nat)) (h : SR b s l cv o w) (hb : b < base) (hbw : base ≤ w.heap.size)
    (hown : w.ownsRow base 31 2 cv n (cellsP s.size xs)) (hn : n + l.length ≤ 4294967296) :
    Calls Tryz.prog 32 #[.pointer (some ⟨b, 0, none⟩)] w fun e w' => e = .returned (.tuple #[]) ∧ ∃ cv', SR b s (commS l).2.1 cv' (o || (commS l).2.2) w' ∧
      w'.ownsRow base 31 2 cv' (n + (commS l).1.length) (cellsP s.size (xs ++ (commS l).1)) ∧ Fc b cv.ownBlock w w' ∧ NewRow w cv.ownBlock cv'.ownBlock := by
  obtain ⟨i0, hi, hz0, hz1, hz2⟩ := info_parts infoPc
  have P := Lib.hid (fun l cv o w h => peek0 b s l cv o w h)
  have P1 := Lib.hid (fun l cv o w h => peek1 b s l cv o w h)
  have K := Lib.hid (fun c t cv o w h => take_cons b s c t cv o w h)
  have KN := Lib.hid (fun cv o w h => take_nil b s cv o w h)
  have START := Lib.hid (show CRel b s l o base n xs cv.ownBlock w w from ⟨l, cv, o, [], h, by simpa using hown, Fc.refl _ _ _, NewRow.refl _ _, rfl, rfl, rfl, by simp⟩)
  have HN := Lib.hid hn
  clear h hown hn
  go_enter Tryz.func32, Tryz.ntmps32
  go_wp2_with fail
  go_loopw [] (fun wr => CRel b s l o base n xs cv.ownBlock w wr) (fun wr => leftOf b s wr)
  case atStart => exact START.out
  case round =>
    obtain ⟨r, cv1, o1, done, hr, hown, hfc, hnew, hd, hrest, hopen, hlen⟩ := hrel
    clear START
    have HS := Lib.hid hr
    have HO := Lib.hid hown
    have HF := Lib.hid hfc
    have HW := Lib.hid hnew
    have HD := Lib.hid hd
    have HR := Lib.hid hrest
    have HP := Lib.hid hopen
    have HL := Lib.hid hlen
    clear hr hown hfc hnew hd hrest hopen hlen
    by_cases hc : cpAt r 0 = 47 ∧ cpAt r 1 = 42
    · obtain ⟨t, rfl⟩ := two_len hc
      clear hc
      obtain ⟨k, hA, d1⟩ := HS.out.c1
      have z1 := HS.out.fz 1
      have hkz : k ≤ 4294967296 := Nat.le_trans hA.le hA.hz
      have hks := hA.size
      have KB := Lib.hid (blen_at hA)
      have A2 := Lib.hid (show At s (k + 2) t by
        have h1 := hA.tail
        have h2 := h1.tail
        exact h2)
      have hk2 : k + 2 ≤ s.size := A2.out.le
      have hz : s.size ≤ 4294967296 := hA.hz
      clear hA hks
      have Q0 := Lib.hid (P.out _ _ _ _ HS.out)
      have Q1 := Lib.hid (P1.out _ _ _ _ HS.out)
      rw [cpAt_zero_cons] at Q0
      rw [cpAt_succ_cons, cpAt_zero_cons] at Q1
      go_wp2_with fail
      refine (Q0.out).mono ?_
      rintro e w' ⟨rfl, hww⟩
      first | (obtain rfl : _ = w' := hww) | (obtain rfl : _ = w' := hww.symm)
      go_wp2_with fail
      refine (Q1.out).mono ?_
      rintro e w' ⟨rfl, hww⟩
      first | (obtain rfl : _ = w' := hww) | (obtain rfl : _ = w' := hww.symm)
      have HS2 := Lib.hid (HS.out.plus (n := 2) A2.out)
      have HO2 := Lib.hid (row_set HO.out (i := 1) hb (.int .i64 ((k : Int) + ((2 : Nat) : Int))))
      have F2 := Lib.hid (Fr.setCell (b := b) wr 1 (.int .i64 ((k : Int) + ((2 : Nat) : Int))))
      go_wp2_with fail
      obtain ⟨wo, rfl⟩ : ∃ wo : World, wo = wr := ⟨_, rfl⟩
      go_loopw [] (fun wr => KRel b s t cv1 o1 (wo.setCell ⟨b, 1, none⟩ (.int .i64 ((k : Int) + ((2 : Nat) : Int)))) wr) (fun wr => leftOf b s wr)
      case atStart => exact ⟨t, HS2.out, Fr.refl _ _, rfl, Nat.le_refl _⟩
      case round =>
        obtain ⟨r', hr', hfr, hcl, hrl⟩ := hrel
        have HR' := Lib.hid hr'
        have HFR := Lib.hid hfr
        have HCL := Lib.hid hcl
        have HRL := Lib.hid hrl
        clear hr' hfr hcl hrl
        have Y0 := Lib.hid (P.out _ _ _ _ HR'.out)
        have Y1 := Lib.hid (P1.out _ _ _ _ HR'.out)
        cases r' with
        | nil =>
          rw [cpAt_nil] at Y0 Y1
          go_wp2_with fail
          refine (Y0.out).mono ?_
          rintro e w' ⟨rfl, hww⟩
          first | (obtain rfl : _ = w' := hww) | (obtain rfl : _ = w' := hww.symm)
          go_wp2_with fail
          refine (KN.out _ _ _ HR'.out).mono ?_
          rintro e w2 ⟨rfl, h2, f2⟩
          have z3 := h2.fz 3
          have e3 := h2.c3
          have HOP := Lib.hid (h2.open' true)
          obtain ⟨k2, hA2, e1⟩ := HOP.out.c1
          have e2 := HOP.out.c2
          have e2A := (HOP.out.alloc (.cells #[.int .i64 (k : Int), .int .i64 (k2 : Int)] 31)).c2
          have KE := Lib.hid hA2
          clear hA2
          have HOW := Lib.hid (row_set (row_fr (row_fr HO2.out HFR.out hb) f2 hb) (i := 3) hb (.bool true))
          have FW := Lib.hid ((F2.out.trans (HFR.out.trans f2)).trans (Fr.setCell (b := b) w2 3 (.bool true)))
          have hsz2 : base ≤ w2.heap.size := by
            have h1 := FW.out.size
            have h3 := HF.out.size
            rw [World.setCell] at h1; simp at h1; omega
          have hnb : n + done.length + 1 ≤ 4294967296 := by
            have h1 := HN.out
            have h3 := HL.out
            simp only [List.length_cons] at h3; omega
          go_wp2_with fail
          go_region_law ((refine step_append_lies _ (by rfl) (.tmp 41) (.tmp 48) 25 (by rfl) base 31 i0 _ 2 16 Tryz.underlying25 hi hz0 hz1 hz2 rfl (by decide) cv1 (n + done.length) (cellsP s.size (xs ++ done)) (by rfl) (HOW.out.drew.alloc _) ⟨_, 0, none⟩ 1 1 [.int .i64 (k : Int), .int .i64 (k2 : Int)] (by rfl) (by rfl) (pc_new _ _ (by simp [World.setCell]) _ _ _) (fun u hu => by simp at hu; rcases hu with rfl | rfl <;> rfl) (by decide) (by unfold maxLen; omega) (by omega) (by simp [World.setCell, World.drew]; omega) (w2.heap.size + 1) (by simp [World.setCell, World.drew]) ?_; intro g cap w3 hown3 hgrow hat hlt3; have S3 := Lib.hid (((show SR b s [] cv1 true (w2.setCell ⟨b, 3, none⟩ (.bool true)).drew from HOP.out).alloc _).grown hgrow (row_ne HOW.out hb)); have y2 := S3.out.fz 2; have y3 := S3.out.c2))
          all_goals
            have hH : wo.heap.size ≤ w2.heap.size + 1 := by
              have h1 := FW.out.size
              rw [World.setCell] at h1; simp at h1; omega
            have ADD := Lib.hid (comm_add HF.out HW.out ((by first | exact (FW.out.alloc _).drew' | exact FW.out.drew'.alloc _) : Fr b wo _) hgrow hat hH hown3 hb KB.out (show k2 = s.size - 0 from blen_at KE.out) S3.out)
            clear hgrow hat hown3 y2 y3
            go_wp2_with fail
            refine bodyPost_ret (results_none rfl _ _ _) rfl ?_
            have hno : closeS t = none := HCL.out.symm
            have hd := HD.out
            have hrr := HR.out
            have hp := HP.out
            rw [commS_open t hno] at hd hrr hp
            refine ⟨rfl, _, ?_, ?_, ADD.out.2.2.1, ADD.out.2.2.2⟩
            · rw [← hrr, ← hp, Bool.or_true]; exact ADD.out.1
            · rw [← hd]; exact ADD.out.2.1
        | cons c u =>
          rw [cpAt_zero_cons] at Y0
          rw [cpAt_succ_cons] at Y1
          by_cases he : c = 42 ∧ cpAt u 0 = 47
          · obtain ⟨rfl, he⟩ := he
            rw [he] at Y1
            obtain ⟨v, rfl⟩ : ∃ v, u = 47 :: v := by
              cases u with
              | nil => rw [cpAt_nil] at he; omega
              | cons d v =>
                rw [cpAt_zero_cons] at he
                have : d = 47 := by omega
                subst this
                exact ⟨v, rfl⟩
            clear he
            have hsome : closeS t = some v := by rw [← HCL.out]; exact closeS_end v
            have HSO := Lib.hid hsome
            clear hsome
            obtain ⟨k1, hA1, g1⟩ := HR'.out.c1
            have y1 := HR'.out.fz 1
            have hk1z : k1 + 2 ≤ s.size := (show At s (k1 + 2) v from hA1.tail.tail).le
            have A4 := Lib.hid (show At s (k1 + 2) v from hA1.tail.tail)
            clear hA1
            have HOP := Lib.hid (HR'.out.plus (n := 2) A4.out)
            have c2 := HR'.out.c2
            have e1 : (wr.setCell ⟨b, 1, none⟩ (.int .i64 ((k1 : Int) + 2))).cell? ⟨b, 1, none⟩ = some (.int .i64 ((k1 : Int) + 2)) := by
              obtain ⟨k5, hA5, g5⟩ := HOP.out.c1
              have : k5 = k1 + 2 := hA5.unique A4.out
              subst this
              rw [Int.natCast_add] at g5
              exact g5
            have e2 : (wr.setCell ⟨b, 1, none⟩ (.int .i64 ((k1 : Int) + 2))).cell? ⟨b, 2, none⟩ = some cv1 := HOP.out.c2
            have e2A : ((wr.setCell ⟨b, 1, none⟩ (.int .i64 ((k1 : Int) + 2))).alloc (.cells #[.int .i64 (k : Int), .int .i64 ((k1 : Int) + 2)] 31)).cell? ⟨b, 2, none⟩ = some cv1 := (HOP.out.alloc _).c2
            have HOW := Lib.hid (row_set (row_fr HO2.out HFR.out hb) (i := 1) hb (.int .i64 ((k1 : Int) + ((2 : Nat) : Int))))
            have FW := Lib.hid ((F2.out.trans HFR.out).trans (Fr.setCell (b := b) wr 1 (.int .i64 ((k1 : Int) + ((2 : Nat) : Int)))))
            have hsz2 : base ≤ wr.heap.size := by
              have h1 := FW.out.size
              have h3 := HF.out.size
              rw [World.setCell] at h1; simp at h1; omega
            have hnb : n + done.length + 1 ≤ 4294967296 := by
              have h1 := HN.out
              have h3 := HL.out
              simp only [List.length_cons] at h3; omega
            go_wp2_with fail
            refine (Y0.out).mono ?_
            rintro e w' ⟨rfl, hww⟩
            first | (obtain rfl : _ = w' := hww) | (obtain rfl : _ = w' := hww.symm)
            go_wp2_with fail
            refine (Y1.out).mono ?_
            rintro e w' ⟨rfl, hww⟩
            first | (obtain rfl : _ = w' := hww) | (obtain rfl : _ = w' := hww.symm)
            go_wp2_with fail
            go_region_law ((refine step_append_lies _ (by rfl) (.tmp 63) (.tmp 70) 25 (by rfl) base 31 i0 _ 2 16 Tryz.underlying25 hi hz0 hz1 hz2 rfl (by decide) cv1 (n + done.length) (cellsP s.size (xs ++ done)) (by rfl) (HOW.out.drew.alloc _) ⟨_, 0, none⟩ 1 1 [.int .i64 (k : Int), .int .i64 ((k1 : Int) + 2)] (by rfl) (by rfl) (pc_new _ _ (by simp [World.setCell]) _ _ _) (fun u hu => by simp at hu; rcases hu with rfl | rfl <;> rfl) (by decide) (by unfold maxLen; omega) (by omega) (by simp [World.setCell, World.drew]; omega) (wr.heap.size + 1) (by simp [World.setCell, World.drew]) ?_; intro g cap w3 hown3 hgrow hat hlt3; have S3 := Lib.hid (((show SR b s v cv1 o1 (wr.setCell ⟨b, 1, none⟩ (.int .i64 ((k1 : Int) + ((2 : Nat) : Int)))).drew from HOP.out).alloc _).grown hgrow (row_ne HOW.out hb)); have y2 := S3.out.fz 2; have y3 := S3.out.c2))
            all_goals
              have hH : wo.heap.size ≤ wr.heap.size + 1 := by
                have h1 := FW.out.size
                rw [World.setCell] at h1; simp at h1; omega
              have ADD := Lib.hid (comm_add HF.out HW.out ((by first | exact (FW.out.alloc _).drew' | exact FW.out.drew'.alloc _) : Fr b wo _) hgrow hat hH hown3 hb KB.out (show k1 + 2 = s.size - blen v from blen_at A4.out) S3.out)
              clear hgrow hat hown3 y2 y3
              go_wp2_with fail
              go_roundw
              case rel =>
                refine ⟨v, _, o1, done ++ [(blen (47 :: 42 :: t), blen v)], ADD.out.1, ADD.out.2.1, ADD.out.2.2.1, ADD.out.2.2.2, ?_, ?_, ?_, ?_⟩
                · rw [List.append_assoc, ← HD.out, commS_some t v HSO.out]; rfl
                · rw [← HR.out, commS_some t v HSO.out]
                · rw [← HP.out, commS_some t v HSO.out]
                · have h1 := HL.out
                  have h2 := closeS_len _ _ HSO.out
                  simp only [List.length_cons, List.length_append, List.length_nil] at h1 ⊢
                  omega
              case measure =>
                rw [ADD.out.1.left, HS.out.left]
                exact Nat.lt_of_le_of_lt (suf_enc (closeS_suf _ _ HSO.out)) (Nat.lt_trans (encs_lt 42 t) (encs_lt 47 (42 :: t)))
          · have t42 : ((c : Int) == 42) = decide (c = 42) := by rw [Bool.eq_iff_iff, beq_iff_eq, decide_eq_true_iff]; omega
            have hstep := closeS_step c u he
            have HCS := Lib.hid (hstep.symm.trans HCL.out)
            clear hstep
            have tm : ((c : Int) == -1) = false := beq_eq_false_iff_ne.2 (by omega)
            by_cases h42 : c = 42
            · have t47 : (cpAt u 0 == 47) = false := beq_eq_false_iff_ne.2 (fun e => he ⟨h42, e⟩)
              subst h42
              clear he t42
              obtain ⟨x, hx⟩ : ∃ x, cpAt u 0 = x := ⟨_, rfl⟩
              rw [hx] at Y1 t47
              clear hx
              go_wp2_with fail
              refine (Y0.out).mono ?_
              rintro e w' ⟨rfl, hww⟩
              first | (obtain rfl : _ = w' := hww) | (obtain rfl : _ = w' := hww.symm)
              go_wp2_with fail
              refine (Y1.out).mono ?_
              rintro e w' ⟨rfl, hww⟩
              first | (obtain rfl : _ = w' := hww) | (obtain rfl : _ = w' := hww.symm)
              go_wp2_with fail
              refine (K.out _ _ _ _ _ HR'.out).mono ?_
              rintro e w2 ⟨rfl, h2, f2⟩
              go_wp2_with fail
              go_roundw
              case rel => exact ⟨u, h2, HFR.out.trans f2, HCS.out, by have := HRL.out; simp only [List.length_cons] at this; omega⟩
              case measure => rw [h2.left, HR'.out.left]; exact encs_lt _ u
            · rw [decide_eq_false h42] at t42
              clear he h42
              go_wp2_with fail
              refine (Y0.out).mono ?_
              rintro e w' ⟨rfl, hww⟩
              first | (obtain rfl : _ = w' := hww) | (obtain rfl : _ = w' := hww.symm)
              go_wp2_with fail
              refine (K.out _ _ _ _ _ HR'.out).mono ?_
              rintro e w2 ⟨rfl, h2, f2⟩
              go_wp2_with fail
              go_roundw
              case rel => exact ⟨u, h2, HFR.out.trans f2, HCS.out, by have := HRL.out; simp only [List.length_cons] at this; omega⟩
              case measure => rw [h2.left, HR'.out.left]; exact encs_lt _ u
    · have hno := commS_no r hc
      have Q0 := Lib.hid (P.out _ _ _ _ HS.out)
      have Q1 := Lib.hid (P1.out _ _ _ _ HS.out)
      have HNO := Lib.hid hno
      clear hno
      obtain ⟨x, hx⟩ : ∃ x, cpAt r 0 = x := ⟨_, rfl⟩
      obtain ⟨y, hy⟩ : ∃ x, cpAt r 1 = x := ⟨_, rfl⟩
      rw [hx] at Q0 hc
      rw [hy] at Q1 hc
      clear hx hy
      by_cases h47 : x = 47
      · have t42 : (y == 42) = false := beq_eq_false_iff_ne.2 (fun e => hc ⟨h47, e⟩)
        subst h47
        clear hc
        go_wp2_with fail
        refine (Q0.out).mono ?_
        rintro e w' ⟨rfl, hww⟩
        first | (obtain rfl : _ = w' := hww) | (obtain rfl : _ = w' := hww.symm)
        go_wp2_with fail
        refine (Q1.out).mono ?_
        rintro e w' ⟨rfl, hww⟩
        first | (obtain rfl : _ = w' := hww) | (obtain rfl : _ = w' := hww.symm)
        go_wp2_with fail
        go_end0
        have hd := HD.out
        have hrr := HR.out
        have hp := HP.out
        rw [HNO.out] at hd hrr hp
        rw [List.append_nil] at hd
        refine ⟨rfl, cv1, ?_, ?_, HF.out, HW.out⟩
        · rw [← hrr, ← hp, Bool.or_false]; exact HS.out
        · rw [← hd]; exact HO.out
      · have t47 : (x == 47) = false := beq_eq_false_iff_ne.2 h47
        clear hc h47
        go_wp2_with fail
        refine (Q0.out).mono ?_
        rintro e w' ⟨rfl, hww⟩
        first | (obtain rfl : _ = w' := hww) | (obtain rfl : _ = w' := hww.symm)
        go_wp2_with fail
        go_end0
        have hd := HD.out
        have hrr := HR.out
        have hp := HP.out
        rw [HNO.out] at hd hrr hp
        rw [List.append_nil] at hd
        refine ⟨rfl, cv1, ?_, ?_, HF.out, HW.out⟩
        · rw [← hrr, ← hp, Bool.or_false]; exact HS.out
        · rw [← hd]; exact HO.out
end Go.Proofs.YtmgkccnfhkcncaaGreatDoor

namespace Go.Proofs.YtmgkccnfhkcncaaGreatDoor
open Go.RowKit

set_option maxHeartbeats 2000000 in
set_option maxRecDepth 100000 in
theorem specCounts (a b c : Int) (w : World) : Calls Tryz.prog 55 #[.int .i64 a, .int .i64 b, .int .i64 c] w fun e w' => e = .returned (.bool (countZ a b c)) ∧ w = w' := by
  by_cases h : a = 43 ∨ a = 45
  · have hf : countZ a b c = (dgB b || (decide (b = 46) && dgB c)) := if_pos h
    have D1 := Lib.hid (fun w => specDigit b w)
    have D2 := Lib.hid (fun w => specDigit c w)
    obtain ⟨x, hx⟩ : ∃ x, dgB b = x := ⟨_, rfl⟩
    obtain ⟨y, hy⟩ : ∃ x, dgB c = x := ⟨_, rfl⟩
    rw [hx] at D1 hf
    rw [hy] at D2 hf
    have HF := Lib.hid hf
    clear hx hy hf
    by_cases hb : b = 46
    · subst hb
      rcases h with rfl | rfl
      all_goals
        cases x
        · go_enter Tryz.func55, Tryz.ntmps55
          go_wp2_with fail
          refine (D1.out _).mono ?_
          rintro e w' ⟨rfl, hww⟩
          first | (obtain rfl : _ = w' := hww) | (obtain rfl : _ = w' := hww.symm)
          go_wp2_with fail
          refine (D2.out _).mono ?_
          rintro e w' ⟨rfl, hww⟩
          first | (obtain rfl : _ = w' := hww) | (obtain rfl : _ = w' := hww.symm)
          go_wp2_with fail
          go_ret
          exact ⟨ret_bool (by rw [HF.out]; simp), rfl⟩
        · go_enter Tryz.func55, Tryz.ntmps55
          go_wp2_with fail
          refine (D1.out _).mono ?_
          rintro e w' ⟨rfl, hww⟩
          first | (obtain rfl : _ = w' := hww) | (obtain rfl : _ = w' := hww.symm)
          go_wp2_with fail
          go_ret
          exact ⟨ret_bool (by rw [HF.out]; simp), rfl⟩
    · have t46 : (b == 46) = false := beq_eq_false_iff_ne.2 hb
      have HB := Lib.hid (decide_eq_false hb)
      clear hb
      rcases h with rfl | rfl
      all_goals
        cases x
        all_goals
          go_enter Tryz.func55, Tryz.ntmps55
          go_wp2_with fail
          refine (D1.out _).mono ?_
          rintro e w' ⟨rfl, hww⟩
          first | (obtain rfl : _ = w' := hww) | (obtain rfl : _ = w' := hww.symm)
          go_wp2_with fail
          go_ret
          exact ⟨ret_bool (by rw [HF.out, HB.out]; simp), rfl⟩
  · have hf : countZ a b c = (dgB a || (decide (a = 46) && dgB b)) := if_neg h
    have t43 : (a == 43) = false := beq_eq_false_iff_ne.2 (fun e => h (Or.inl e))
    have t45 : (a == 45) = false := beq_eq_false_iff_ne.2 (fun e => h (Or.inr e))
    have D1 := Lib.hid (fun w => specDigit a w)
    have D2 := Lib.hid (fun w => specDigit b w)
    obtain ⟨x, hx⟩ : ∃ x, dgB a = x := ⟨_, rfl⟩
    obtain ⟨y, hy⟩ : ∃ x, dgB b = x := ⟨_, rfl⟩
    rw [hx] at D1 hf
    rw [hy] at D2 hf
    have HF := Lib.hid hf
    clear hx hy hf h
    by_cases hb : a = 46
    · subst hb
      cases x
      · go_enter Tryz.func55, Tryz.ntmps55
        go_wp2_with fail
        refine (D1.out _).mono ?_
        rintro e w' ⟨rfl, hww⟩
        first | (obtain rfl : _ = w' := hww) | (obtain rfl : _ = w' := hww.symm)
        go_wp2_with fail
        refine (D2.out _).mono ?_
        rintro e w' ⟨rfl, hww⟩
        first | (obtain rfl : _ = w' := hww) | (obtain rfl : _ = w' := hww.symm)
        go_wp2_with fail
        go_ret
        exact ⟨ret_bool (by rw [HF.out]; simp), rfl⟩
      · go_enter Tryz.func55, Tryz.ntmps55
        go_wp2_with fail
        refine (D1.out _).mono ?_
        rintro e w' ⟨rfl, hww⟩
        first | (obtain rfl : _ = w' := hww) | (obtain rfl : _ = w' := hww.symm)
        go_wp2_with fail
        go_ret
        exact ⟨ret_bool (by rw [HF.out]; simp), rfl⟩
    · have t46 : (a == 46) = false := beq_eq_false_iff_ne.2 hb
      have HB := Lib.hid (decide_eq_false hb)
      clear hb
      cases x
      all_goals
        go_enter Tryz.func55, Tryz.ntmps55
        go_wp2_with fail
        refine (D1.out _).mono ?_
        rintro e w' ⟨rfl, hww⟩
        first | (obtain rfl : _ = w' := hww) | (obtain rfl : _ = w' := hww.symm)
        go_wp2_with fail
        go_ret
        exact ⟨ret_bool (by rw [HF.out, HB.out]; simp), rfl⟩
end Go.Proofs.YtmgkccnfhkcncaaGreatDoor

namespace Go.Proofs.YtmgkccnfhkcncaaGreatDoor
open Go.RowKit

theorem agg_ret (k : Tk) {k' : Tk} (h : k = k') : Ending.returned (.agg #[.int .i64 (k.kind : Int), .int .i64 0, .int .i64 0, .int .i64 (k.unit : Int), .bool k.id, .string (strOf k.text)]) = .returned (tkV k' 0 0) := by subst h; rfl

/-- The end of a function that hands a token back, where nothing was done since its zero token was made. -/
theorem tok_endN {fn : Func} {post : Ending → World → Prop} {a : Act} {w : World} {v0 v1 v2 v3 v4 v5 : Value} (hr : fn.results = #[.cell 2 47]) (hp : a.tmps.getD 2 undef = .pointer (some ⟨w.heap.size, 0, none⟩)) (hd : a.defers = [])
    (hpost : post (.returned (.agg #[v0, v1, v2, v3, v4, v5])) (w.alloc (.cells #[v0, v1, v2, v3, v4, v5] 47))) : bodyPost Tryz.prog fn post .ret a (w.alloc (.cells #[v0, v1, v2, v3, v4, v5] 47)) :=
  bodyPost_ret (results_cell_row (P := Tryz.prog) hr a.tmps _ w.heap.size _ _ _ _ hp (heap_alloc_new _ _) Tryz.underlying47 rfl infoTok) hd hpost

set_option maxHeartbeats 8000000 in
set_option maxRecDepth 100000 in
theorem nextL_nil (b : Nat) (s : ByteArray) (cv : Value) (o : Bool) (w : World) (h : SR b s [] cv o w) :
    Calls Tryz.prog 33 #[.pointer (some ⟨b, 0, none⟩)] w fun e w' => e = .returned (tkV ⟨0, 0, false, []⟩ 0 0) ∧ SR b s [] cv o w' ∧ Fr b w w' := by
  have hlt := h.lt
  have hR : w.heap.size ≠ b := by omega
  have H1 := Lib.hid (h.alloc (.cells #[.int .i64 0, .int .i64 0, .int .i64 0, .int .i64 0, .bool false, .string ⟨#[]⟩] 47))
  have Z0 := Lib.hid (ZB.new w)
  have F0 := Lib.hid ((Fr.refl b w).alloc (.cells #[.int .i64 0, .int .i64 0, .int .i64 0, .int .i64 0, .bool false, .string ⟨#[]⟩] 47))
  go_enter Tryz.func33, Tryz.ntmps33
  go_wp2_with fail
  refine (peek0 b s [] cv o _ H1.out).mono ?_
  rintro e w' ⟨rfl, hww⟩
  first | (obtain rfl : _ = w' := hww) | (obtain rfl : _ = w' := hww.symm)
  go_wp2_with fail
  refine (peek1 b s [] cv o _ H1.out).mono ?_
  rintro e w' ⟨rfl, hww⟩
  first | (obtain rfl : _ = w' := hww) | (obtain rfl : _ = w' := hww.symm)
  go_wp2_with fail
  refine (peek2 b s [] cv o _ H1.out).mono ?_
  rintro e w' ⟨rfl, hww⟩
  first | (obtain rfl : _ = w' := hww) | (obtain rfl : _ = w' := hww.symm)
  rw [cpAt_nil, cpAt_nil, cpAt_nil]
  go_wp2_with fail
  refine tok_endN rfl rfl rfl ?_
  exact ⟨tk_ret rfl rfl rfl rfl rfl rfl, h.alloc _, (Fr.refl b w).alloc _⟩
end Go.Proofs.YtmgkccnfhkcncaaGreatDoor

namespace Go.Proofs.YtmgkccnfhkcncaaGreatDoor
open Go.RowKit

theorem At.skip {s : ByteArray} {k c : Nat} {t : List Nat} (h : At s k (c :: t)) (hc : c < 128) : At s (k + 1) t := by
  have := h.tail
  rwa [show wid (c :: t) = 1 by show (enc c).length = 1; rw [enc_ascii c hc]; rfl] at this
theorem At.skip3 {s : ByteArray} {k c : Nat} {t : List Nat} (h : At s k (c :: t)) (hc : c < 128) (h0 : 0 ≤ cpAt t 0 ∧ cpAt t 0 < 128) (h1 : 0 ≤ cpAt t 1 ∧ cpAt t 1 < 128) : At s (k + 3) (t.drop 2) := by
  match t, h0, h1, h with
  | [], h0, _, _ => rw [cpAt_nil] at h0; omega
  | [_], _, h1, _ => rw [cpAt_succ_cons, cpAt_nil] at h1; omega
  | d :: e :: u, h0, h1, h =>
    rw [cpAt_zero_cons] at h0
    rw [cpAt_succ_cons, cpAt_zero_cons] at h1
    exact ((h.skip hc).skip (by omega)).skip (by omega)
theorem At.skip4 {s : ByteArray} {k c : Nat} {t : List Nat} (h : At s k (c :: t)) (hc : c < 128) (h0 : 0 ≤ cpAt t 0 ∧ cpAt t 0 < 128) (h1 : 0 ≤ cpAt t 1 ∧ cpAt t 1 < 128) (h2 : 0 ≤ cpAt t 2 ∧ cpAt t 2 < 128) : At s (k + 4) (t.drop 3) := by
  match t, h0, h1, h2, h with
  | [], h0, _, _, _ => rw [cpAt_nil] at h0; omega
  | [_], _, h1, _, _ => rw [cpAt_succ_cons, cpAt_nil] at h1; omega
  | [_, _], _, _, h2, _ => rw [cpAt_succ_cons, cpAt_succ_cons, cpAt_nil] at h2; omega
  | d :: e :: f :: u, h0, h1, h2, h =>
    rw [cpAt_zero_cons] at h0
    rw [cpAt_succ_cons, cpAt_zero_cons] at h1
    rw [cpAt_succ_cons, cpAt_succ_cons, cpAt_zero_cons] at h2
    exact (((h.skip hc).skip (by omega)).skip (by omega)).skip (by omega)
theorem SR.setAtN {b : Nat} {s : ByteArray} {l l' : List Nat} {cv : Value} {o : Bool} {w : World} (h : SR b s l cv o w) {k n : Nat} (hA : At s (k + n) l') : SR b s l' cv o (w.setCell ⟨b, 1, none⟩ (.int .i64 ((k : Int) + (n : Int)))) := by
  have := h.setAt hA
  rwa [Int.natCast_add] at this
/-- The end of a function that hands a token back, where its zero token's stores stand behind what else was done. -/
theorem tok_endR {fn : Func} {post : Ending → World → Prop} {a : Act} {w' : World} {R : Nat} {v0 v1 v2 v3 v4 v5 : Value} (hr : fn.results = #[.cell 2 47]) (hp : a.tmps.getD 2 undef = .pointer (some ⟨R, 0, none⟩)) (hd : a.defers = []) (hR : w'.heap.size = R)
    (hpost : post (.returned (.agg #[v0, v1, v2, v3, v4, v5])) (w'.alloc (.cells #[v0, v1, v2, v3, v4, v5] 47))) : bodyPost Tryz.prog fn post .ret a (w'.alloc (.cells #[v0, v1, v2, v3, v4, v5] 47)) := by
  subst hR
  exact tok_endN hr hp hd hpost

set_option maxHeartbeats 8000000 in
set_option maxRecDepth 100000 in
theorem nextL (b : Nat) (s : ByteArray) (c : Nat) (t : List Nat) (cv : Value) (o : Bool) (w : World) (h : SR b s (c :: t) cv o w) :
    Calls Tryz.prog 33 #[.pointer (some ⟨b, 0, none⟩)] w fun e w' => e = .returned (tkV (nextS c t).1 0 0) ∧ SR b s (nextS c t).2.1 cv (o || (nextS c t).2.2) w' ∧ Fr b w w' := by
  have hlt := h.lt
  have hR : w.heap.size ≠ b := by omega
  have H0 := Lib.hid h
  have H1 := Lib.hid (h.alloc (.cells #[.int .i64 0, .int .i64 0, .int .i64 0, .int .i64 0, .bool false, .string ⟨#[]⟩] 47))
  have Z0 := Lib.hid (ZB.new w)
  have F0 := Lib.hid ((Fr.refl b w).alloc (.cells #[.int .i64 0, .int .i64 0, .int .i64 0, .int .i64 0, .bool false, .string ⟨#[]⟩] 47))
  clear h
  obtain ⟨RES, hRES⟩ : ∃ R, nextS c t = R := ⟨_, rfl⟩
  rw [hRES]
  have HRES := Lib.hid hRES
  clear hRES
  have P0 := Lib.hid (peek0 b s (c :: t) cv o _ H1.out)
  have P1 := Lib.hid (peek1 b s (c :: t) cv o _ H1.out)
  have P2 := Lib.hid (peek2 b s (c :: t) cv o _ H1.out)
  have P3 := Lib.hid (peek3 b s (c :: t) cv o _ H1.out)
  rw [cpAt_zero_cons] at P0
  rw [cpAt_succ_cons] at P1 P2 P3
  obtain ⟨x, hx⟩ : ∃ x, cpAt t 0 = x := ⟨_, rfl⟩
  obtain ⟨y, hy⟩ : ∃ x, cpAt t 1 = x := ⟨_, rfl⟩
  obtain ⟨z, hz⟩ : ∃ x, cpAt t 2 = x := ⟨_, rfl⟩
  rw [hx] at P1
  rw [hy] at P2
  rw [hz] at P3
  have HXX := Lib.hid hx
  have HYY := Lib.hid hy
  have HZZ := Lib.hid hz
  clear hx hy hz
  have tm : ((c : Int) == -1) = false := beq_eq_false_iff_ne.2 (by omega)
  have WS := Lib.hid (fun w => specSpace (c : Int) w)
  rw [sp_nat] at WS
  cases hw : isWs c with
  | true =>
    rw [hw] at WS
    have S1 := Lib.hid (spacesL b s (c :: t) cv o _ H1.out)
    rw [spS_cons, if_pos hw] at S1
    have HX := Lib.hid (show RES = (⟨38, 0, false, []⟩, spS t, false) by rw [← HRES.out]; unfold nextS; rw [if_pos hw])
    clear hw
    go_enter Tryz.func33, Tryz.ntmps33
    go_wp2_with fail
    refine (P0.out).mono ?_
    rintro e w' ⟨rfl, hww⟩
    first | (obtain rfl : _ = w' := hww) | (obtain rfl : _ = w' := hww.symm)
    go_wp2_with fail
    refine (P1.out).mono ?_
    rintro e w' ⟨rfl, hww⟩
    first | (obtain rfl : _ = w' := hww) | (obtain rfl : _ = w' := hww.symm)
    go_wp2_with fail
    refine (P2.out).mono ?_
    rintro e w' ⟨rfl, hww⟩
    first | (obtain rfl : _ = w' := hww) | (obtain rfl : _ = w' := hww.symm)
    go_wp2_with fail
    refine (WS.out _).mono ?_
    rintro e w' ⟨rfl, hww⟩
    first | (obtain rfl : _ = w' := hww) | (obtain rfl : _ = w' := hww.symm)
    go_wp2_with fail
    refine (S1.out).mono ?_
    rintro e w2 ⟨rfl, h2, f2⟩
    have zb := Z0.out.fr f2 hR
    obtain ⟨c0, c1, c2, c3, c4, c5⟩ := zb.c
    obtain ⟨z0, z1, z2, z3, z4, z5⟩ := zb.z
    have ZZ := Lib.hid zb
    clear zb
    go_wp2_with fail
    refine tok_end (R := w.heap.size) rfl rfl rfl ZZ.out ?_
    rw [HX.out]
    dsimp only
    exact ⟨tk_ret rfl rfl rfl rfl rfl rfl, (show SR b s (spS t) cv (o || false) w2 by rw [Bool.or_false]; exact h2).put6 (Ne.symm hR) _ _ _ _ _ _, (F0.out.trans f2).put6 (Nat.le_refl _) _ _ _ _ _ _⟩
  | false =>
    rw [hw] at WS
    by_cases hq : c = 34 ∨ c = 39
    · have QL := Lib.hid (quotedL b s c t cv o _ H1.out hq)
      have HX := Lib.hid (show RES = (quotTk c t, (quotS c t).2.2.1, (quotS c t).2.2.2) by rw [← HRES.out]; unfold nextS; rw [if_neg (by rw [hw]; decide), if_pos hq]; rfl)
      obtain ⟨tk, htk⟩ : ∃ x, quotTk c t = x := ⟨_, rfl⟩
      rw [htk] at HX QL
      rw [tkV_agg] at QL
      clear hw htk
      rcases hq with rfl | rfl
      all_goals
        go_enter Tryz.func33, Tryz.ntmps33
        go_wp2_with fail
        refine (P0.out).mono ?_
        rintro e w' ⟨rfl, hww⟩
        first | (obtain rfl : _ = w' := hww) | (obtain rfl : _ = w' := hww.symm)
        go_wp2_with fail
        refine (P1.out).mono ?_
        rintro e w' ⟨rfl, hww⟩
        first | (obtain rfl : _ = w' := hww) | (obtain rfl : _ = w' := hww.symm)
        go_wp2_with fail
        refine (P2.out).mono ?_
        rintro e w' ⟨rfl, hww⟩
        first | (obtain rfl : _ = w' := hww) | (obtain rfl : _ = w' := hww.symm)
        go_wp2_with fail
        refine (WS.out _).mono ?_
        rintro e w' ⟨rfl, hww⟩
        first | (obtain rfl : _ = w' := hww) | (obtain rfl : _ = w' := hww.symm)
        go_wp2_with fail
        refine (QL.out).mono ?_
        rintro e w2 ⟨rfl, h2, f2⟩
        have zb := Z0.out.fr f2 hR
        obtain ⟨c0, c1, c2, c3, c4, c5⟩ := zb.c
        obtain ⟨z0, z1, z2, z3, z4, z5⟩ := zb.z
        have ZZ := Lib.hid zb
        clear zb
        go_wp2_with fail
        refine tok_end (R := w.heap.size) rfl rfl rfl ZZ.out ?_
        rw [HX.out]
        dsimp only
        exact ⟨tk_ret rfl rfl rfl rfl rfl rfl, (h2).put6 (Ne.symm hR) _ _ _ _ _ _, (F0.out.trans f2).put6 (Nat.le_refl _) _ _ _ _ _ _⟩
    · have t34 : ((c : Int) == 34) = false := beq_eq_false_iff_ne.2 (fun e => hq (Or.inl (by omega)))
      have t39 : ((c : Int) == 39) = false := beq_eq_false_iff_ne.2 (fun e => hq (Or.inr (by omega)))
      have CN := Lib.hid (fun w => specContinues x w)
      have ES := Lib.hid (fun w => specEscapes x y w)
      obtain ⟨sc, hsc⟩ : ∃ v, scB x = v := ⟨_, rfl⟩
      obtain ⟨es, hes⟩ : ∃ v, escZ x y = v := ⟨_, rfl⟩
      rw [hsc] at CN
      rw [hes] at ES
      have HSC := Lib.hid hsc
      have HES := Lib.hid hes
      have HW := Lib.hid hw
      have HQ := Lib.hid hq
      clear hsc hes hw hq
      go_enter Tryz.func33, Tryz.ntmps33
      go_wp2_with fail
      refine (P0.out).mono ?_
      rintro e w' ⟨rfl, hww⟩
      first | (obtain rfl : _ = w' := hww) | (obtain rfl : _ = w' := hww.symm)
      go_wp2_with fail
      refine (P1.out).mono ?_
      rintro e w' ⟨rfl, hww⟩
      first | (obtain rfl : _ = w' := hww) | (obtain rfl : _ = w' := hww.symm)
      go_wp2_with fail
      refine (P2.out).mono ?_
      rintro e w' ⟨rfl, hww⟩
      first | (obtain rfl : _ = w' := hww) | (obtain rfl : _ = w' := hww.symm)
      go_wp2_with fail
      refine (WS.out _).mono ?_
      rintro e w' ⟨rfl, hww⟩
      first | (obtain rfl : _ = w' := hww) | (obtain rfl : _ = w' := hww.symm)
      go_upto_region 9 with fail
      go_cut [32] (fun v wx => v = .bool (((c : Int) == 35) && (sc || es)) ∧ wx = w.alloc (.cells #[.int .i64 0, .int .i64 0, .int .i64 0, .int .i64 0, .bool false, .string ⟨#[]⟩] 47))
      case first =>
        cases t35 : ((c : Int) == 35)
        · go_wp2_with fail
          go_meet
          exact ⟨by first | rw [t35]; rfl | rfl, rfl⟩
        · cases sc with
          | true =>
            go_wp2_with fail
            refine (CN.out _).mono ?_
            rintro e w' ⟨rfl, hww⟩
            first | (obtain rfl : _ = w' := hww) | (obtain rfl : _ = w' := hww.symm)
            go_wp2_with fail
            go_meet
            exact ⟨by first | rw [t35]; rfl | rfl, rfl⟩
          | false =>
            go_wp2_with fail
            refine (CN.out _).mono ?_
            rintro e w' ⟨rfl, hww⟩
            first | (obtain rfl : _ = w' := hww) | (obtain rfl : _ = w' := hww.symm)
            go_wp2_with fail
            refine (ES.out _).mono ?_
            rintro e w' ⟨rfl, hww⟩
            first | (obtain rfl : _ = w' := hww) | (obtain rfl : _ = w' := hww.symm)
            go_wp2_with fail
            go_meet
            exact ⟨by first | rw [t35]; rfl | rfl, rfl⟩
      case rest =>
        obtain ⟨rfl, rfl⟩ := hcut
        obtain ⟨B9, hB9⟩ : ∃ v, (((c : Int) == 35) && (sc || es)) = v := ⟨_, rfl⟩
        rw [hB9]
        have HB9 := Lib.hid (show B9 = true ↔ (c = 35 ∧ (scB (cpAt t 0) || escZ (cpAt t 0) (cpAt t 1)) = true) by
          rw [← hB9, HXX.out, HYY.out, HSC.out, HES.out, Bool.and_eq_true, beq_iff_eq]
          constructor
          · rintro ⟨h1, h2⟩; exact ⟨by omega, h2⟩
          · rintro ⟨h1, h2⟩; exact ⟨by omega, h2⟩)
        clear hB9
        cases B9 with
        | true =>
          have hb := HB9.out.1 (by first | rfl | trivial)
          have K := Lib.hid (take_cons b s c t cv o _ H1.out)
          have I1 := Lib.hid (fun w => specIdentifies x y z w)
          obtain ⟨i1, hi1⟩ : ∃ v, identZ x y z = v := ⟨_, rfl⟩
          rw [hi1] at I1
          have HX := Lib.hid (show RES = (⟨28, 0, i1, (nameS t).1⟩, (nameS t).2.1, (nameS t).2.2) by
            rw [← HRES.out]; unfold nextS
            rw [if_neg (by rw [HW.out]; decide), if_neg HQ.out, if_pos hb, HXX.out, HYY.out, HZZ.out, hi1])
          clear hb hi1
          go_wp2_with fail
          refine (K.out).mono ?_
          rintro e w2 ⟨rfl, h2, f2⟩
          have P4 := Lib.hid (peek2 b s t cv o _ h2)
          rw [HZZ.out] at P4
          go_wp2_with fail
          refine (P4.out).mono ?_
          rintro e w' ⟨rfl, hww⟩
          first | (obtain rfl : _ = w' := hww) | (obtain rfl : _ = w' := hww.symm)
          go_wp2_with fail
          refine (I1.out _).mono ?_
          rintro e w' ⟨rfl, hww⟩
          first | (obtain rfl : _ = w' := hww) | (obtain rfl : _ = w' := hww.symm)
          go_wp2_with fail
          refine (nameL b s t cv o _ h2).mono ?_
          rintro e w3 ⟨rfl, h3, f3⟩
          have F3 := Lib.hid ((F0.out.trans f2).trans f3)
          have Z3 := Lib.hid ((Z0.out.fr f2 hR).fr f3 hR)
          clear f2 f3
          have zb := Z3.out
          obtain ⟨c0, c1, c2, c3, c4, c5⟩ := zb.c
          obtain ⟨z0, z1, z2, z3, z4, z5⟩ := zb.z
          have ZZ := Lib.hid zb
          clear zb
          go_wp2_with fail
          refine tok_end (R := w.heap.size) rfl rfl rfl ZZ.out ?_
          rw [HX.out]
          dsimp only
          exact ⟨tk_ret rfl rfl rfl rfl rfl rfl, h3.put6 (Ne.symm hR) _ _ _ _ _ _, F3.out.put6 (Nat.le_refl _) _ _ _ _ _ _⟩
        | false =>
          have N9 := Lib.hid (show ¬ (c = 35 ∧ (scB (cpAt t 0) || escZ (cpAt t 0) (cpAt t 1)) = true) from fun h => absurd (HB9.out.2 h) (by decide))
          have CT := Lib.hid (fun w => specCounts (c : Int) x y w)
          obtain ⟨ct, hct⟩ : ∃ v, countZ (c : Int) x y = v := ⟨_, rfl⟩
          rw [hct] at CT
          have HCT := Lib.hid hct
          clear hct
          cases ct with
          | true =>
            have NU := Lib.hid (numericL b s (c :: t) cv o _ H1.out)
            have HX := Lib.hid (show RES = numericS (c :: t) by
              rw [← HRES.out]; unfold nextS
              rw [if_neg (by rw [HW.out]; decide), if_neg HQ.out, if_neg N9.out, if_pos (by rw [HXX.out, HYY.out]; exact HCT.out)])
            obtain ⟨RN, hRN⟩ : ∃ v, numericS (c :: t) = v := ⟨_, rfl⟩
            rw [hRN] at HX NU
            rw [tkV_agg] at NU
            clear hRN
            go_wp2_with fail
            refine (CT.out _).mono ?_
            rintro e w' ⟨rfl, hww⟩
            first | (obtain rfl : _ = w' := hww) | (obtain rfl : _ = w' := hww.symm)
            go_wp2_with fail
            refine (NU.out).mono ?_
            rintro e w2 ⟨rfl, h2, f2⟩
            have zb := Z0.out.fr f2 hR
            obtain ⟨c0, c1, c2, c3, c4, c5⟩ := zb.c
            obtain ⟨z0, z1, z2, z3, z4, z5⟩ := zb.z
            have ZZ := Lib.hid zb
            clear zb
            go_wp2_with fail
            refine tok_end (R := w.heap.size) rfl rfl rfl ZZ.out ?_
            rw [HX.out]
            exact ⟨tk_ret rfl rfl rfl rfl rfl rfl, h2.put6 (Ne.symm hR) _ _ _ _ _ _, (F0.out.trans f2).put6 (Nat.le_refl _) _ _ _ _ _ _⟩
          | false =>
            go_wp2_with fail
            refine (CT.out _).mono ?_
            rintro e w' ⟨rfl, hww⟩
            first | (obtain rfl : _ = w' := hww) | (obtain rfl : _ = w' := hww.symm)
            go_upto_region 15 with fail
            go_cut [62] (fun v wx => v = .bool (((c : Int) == 45) && (x == 45) && (y == 62)) ∧ wx = w.alloc (.cells #[.int .i64 0, .int .i64 0, .int .i64 0, .int .i64 0, .bool false, .string ⟨#[]⟩] 47))
            case first =>
              cases t45 : ((c : Int) == 45)
              · go_wp2_with fail
                go_meet
                exact ⟨by first | rw [t45]; rfl | rfl, rfl⟩
              · cases tx : (x == 45)
                · go_wp2_with fail
                  go_meet
                  exact ⟨by first | rw [t45, tx]; rfl | rfl, rfl⟩
                · go_wp2_with fail
                  go_meet
                  exact ⟨by first | rw [t45, tx]; rfl | rfl, rfl⟩
            case rest =>
              obtain ⟨rfl, rfl⟩ := hcut
              obtain ⟨B15, hB15⟩ : ∃ v, (((c : Int) == 45) && (x == 45) && (y == 62)) = v := ⟨_, rfl⟩
              rw [hB15]
              have HB15 := Lib.hid (show B15 = true ↔ (c = 45 ∧ cpAt t 0 = 45 ∧ cpAt t 1 = 62) by
                rw [← hB15, HXX.out, HYY.out, Bool.and_eq_true, Bool.and_eq_true, beq_iff_eq, beq_iff_eq, beq_iff_eq]
                constructor
                · rintro ⟨⟨h1, h2⟩, h3⟩; exact ⟨by omega, h2, h3⟩
                · rintro ⟨h1, h2, h3⟩; exact ⟨⟨by omega, h2⟩, h3⟩)
              clear hB15
              cases B15 with
              | true =>
                have hb := HB15.out.1 (by first | rfl | trivial)
                have HX := Lib.hid (show RES = (⟨4, 0, false, []⟩, t.drop 2, false) by
                  rw [← HRES.out]; unfold nextS
                  rw [if_neg (by rw [HW.out]; decide), if_neg HQ.out, if_neg N9.out, if_neg (by rw [HXX.out, HYY.out, HCT.out]; decide), if_pos hb])
                obtain ⟨k0, hA0, d1⟩ := H1.out.c1
                have z1 := H1.out.fz 1
                have hkz : k0 ≤ 4294967296 := Nat.le_trans hA0.le hA0.hz
                have A3 := Lib.hid (show At s (k0 + 3) (t.drop 2) by
                  obtain ⟨h1, h2, h3⟩ := hb
                  exact hA0.skip3 (by omega) (by omega) (by omega))
                clear hb hA0
                go_wp2_with fail
                refine tok_endR (R := w.heap.size) rfl rfl rfl (by simp [World.setCell]) ?_
                rw [HX.out]
                exact ⟨tk_ret rfl rfl rfl rfl rfl rfl, (show SR b s (t.drop 2) cv (o || false) _ by rw [Bool.or_false]; exact (H0.out.setAtN A3.out).alloc _), (Fr.setCell w 1 _).alloc _⟩
              | false =>
                have N15 := Lib.hid (show ¬ (c = 45 ∧ cpAt t 0 = 45 ∧ cpAt t 1 = 62) from fun h => absurd (HB15.out.2 h) (by decide))
                have I0 := Lib.hid (fun w => specIdentifies (c : Int) x y w)
                obtain ⟨i0, hi0⟩ : ∃ v, identZ (c : Int) x y = v := ⟨_, rfl⟩
                rw [hi0] at I0
                have HI0 := Lib.hid hi0
                clear hi0
                cases i0 with
                | true =>
                  have NA := Lib.hid (namedL b s (c :: t) cv o _ H1.out)
                  have HX := Lib.hid (show RES = namedS (c :: t) by
                    rw [← HRES.out]; unfold nextS
                    rw [if_neg (by rw [HW.out]; decide), if_neg HQ.out, if_neg N9.out, if_neg (by rw [HXX.out, HYY.out, HCT.out]; decide), if_neg N15.out, if_pos (by rw [HXX.out, HYY.out]; exact HI0.out)])
                  obtain ⟨RN, hRN⟩ : ∃ v, namedS (c :: t) = v := ⟨_, rfl⟩
                  rw [hRN] at HX NA
                  rw [tkV_agg] at NA
                  clear hRN
                  go_wp2_with fail
                  refine (I0.out _).mono ?_
                  rintro e w' ⟨rfl, hww⟩
                  first | (obtain rfl : _ = w' := hww) | (obtain rfl : _ = w' := hww.symm)
                  go_wp2_with fail
                  refine (NA.out).mono ?_
                  rintro e w2 ⟨rfl, h2, f2⟩
                  have zb := Z0.out.fr f2 hR
                  obtain ⟨c0, c1, c2, c3, c4, c5⟩ := zb.c
                  obtain ⟨z0, z1, z2, z3, z4, z5⟩ := zb.z
                  have ZZ := Lib.hid zb
                  clear zb
                  go_wp2_with fail
                  refine tok_end (R := w.heap.size) rfl rfl rfl ZZ.out ?_
                  rw [HX.out]
                  exact ⟨tk_ret rfl rfl rfl rfl rfl rfl, h2.put6 (Ne.symm hR) _ _ _ _ _ _, (F0.out.trans f2).put6 (Nat.le_refl _) _ _ _ _ _ _⟩
                | false =>
                  go_wp2_with fail
                  refine (I0.out _).mono ?_
                  rintro e w' ⟨rfl, hww⟩
                  first | (obtain rfl : _ = w' := hww) | (obtain rfl : _ = w' := hww.symm)
                  go_upto_region 20 with fail
                  go_cut [88] (fun v wx => v = .bool (((c : Int) == 60) && (x == 33) && (y == 45) && (z == 45)) ∧ wx = w.alloc (.cells #[.int .i64 0, .int .i64 0, .int .i64 0, .int .i64 0, .bool false, .string ⟨#[]⟩] 47))
                  case first =>
                    cases t60 : ((c : Int) == 60)
                    · go_wp2_with fail
                      go_meet
                      exact ⟨by first | rw [t60]; rfl | rfl, rfl⟩
                    · cases tx : (x == 33)
                      · go_wp2_with fail
                        go_meet
                        exact ⟨by first | rw [t60, tx]; rfl | rfl, rfl⟩
                      · cases ty : (y == 45)
                        · go_wp2_with fail
                          go_meet
                          exact ⟨by first | rw [t60, tx, ty]; rfl | rfl, rfl⟩
                        · go_wp2_with fail
                          refine (P3.out).mono ?_
                          rintro e w' ⟨rfl, hww⟩
                          first | (obtain rfl : _ = w' := hww) | (obtain rfl : _ = w' := hww.symm)
                          go_wp2_with fail
                          go_meet
                          exact ⟨by first | rw [t60, tx, ty]; rfl | rfl, rfl⟩
                  case rest =>
                    obtain ⟨rfl, rfl⟩ := hcut
                    obtain ⟨B20, hB20⟩ : ∃ v, (((c : Int) == 60) && (x == 33) && (y == 45) && (z == 45)) = v := ⟨_, rfl⟩
                    rw [hB20]
                    have HB20 := Lib.hid (show B20 = true ↔ (c = 60 ∧ cpAt t 0 = 33 ∧ cpAt t 1 = 45 ∧ cpAt t 2 = 45) by
                      rw [← hB20, HXX.out, HYY.out, HZZ.out, Bool.and_eq_true, Bool.and_eq_true, Bool.and_eq_true, beq_iff_eq, beq_iff_eq, beq_iff_eq, beq_iff_eq]
                      constructor
                      · rintro ⟨⟨⟨h1, h2⟩, h3⟩, h4⟩; exact ⟨by omega, h2, h3, h4⟩
                      · rintro ⟨h1, h2, h3, h4⟩; exact ⟨⟨⟨by omega, h2⟩, h3⟩, h4⟩)
                    clear hB20
                    cases B20 with
                    | true =>
                      have hb := HB20.out.1 (by first | rfl | trivial)
                      have HX := Lib.hid (show RES = (⟨5, 0, false, []⟩, t.drop 3, false) by
                        rw [← HRES.out]; unfold nextS
                        rw [if_neg (by rw [HW.out]; decide), if_neg HQ.out, if_neg N9.out, if_neg (by rw [HXX.out, HYY.out, HCT.out]; decide), if_neg N15.out, if_neg (by rw [HXX.out, HYY.out, HI0.out]; decide), if_pos hb])
                      obtain ⟨k0, hA0, d1⟩ := H1.out.c1
                      have z1 := H1.out.fz 1
                      have hkz : k0 ≤ 4294967296 := Nat.le_trans hA0.le hA0.hz
                      have A4 := Lib.hid (show At s (k0 + 4) (t.drop 3) by
                        obtain ⟨h1, h2, h3, h4⟩ := hb
                        exact hA0.skip4 (by omega) (by omega) (by omega) (by omega))
                      clear hb hA0
                      go_wp2_with fail
                      refine tok_endR (R := w.heap.size) rfl rfl rfl (by simp [World.setCell]) ?_
                      rw [HX.out]
                      exact ⟨tk_ret rfl rfl rfl rfl rfl rfl, (show SR b s (t.drop 3) cv (o || false) _ by rw [Bool.or_false]; exact (H0.out.setAtN A4.out).alloc _), (Fr.setCell w 1 _).alloc _⟩
                    | false =>
                      have N20 := Lib.hid (show ¬ (c = 60 ∧ cpAt t 0 = 33 ∧ cpAt t 1 = 45 ∧ cpAt t 2 = 45) from fun h => absurd (HB20.out.2 h) (by decide))
                      have I3 := Lib.hid (fun w => specIdentifies x y z w)
                      obtain ⟨i3, hi3⟩ : ∃ v, identZ x y z = v := ⟨_, rfl⟩
                      rw [hi3] at I3
                      have HI3 := Lib.hid hi3
                      clear hi3
                      go_upto_region 23 with fail
                      go_cut [112] (fun v wx => v = .bool (((c : Int) == 64) && i3) ∧ wx = w.alloc (.cells #[.int .i64 0, .int .i64 0, .int .i64 0, .int .i64 0, .bool false, .string ⟨#[]⟩] 47))
                      case first =>
                        cases t64 : ((c : Int) == 64)
                        · go_wp2_with fail
                          go_meet
                          exact ⟨by first | rw [t64]; rfl | rfl, rfl⟩
                        · go_wp2_with fail
                          refine (P3.out).mono ?_
                          rintro e w' ⟨rfl, hww⟩
                          first | (obtain rfl : _ = w' := hww) | (obtain rfl : _ = w' := hww.symm)
                          go_wp2_with fail
                          refine (I3.out _).mono ?_
                          rintro e w' ⟨rfl, hww⟩
                          first | (obtain rfl : _ = w' := hww) | (obtain rfl : _ = w' := hww.symm)
                          go_wp2_with fail
                          go_meet
                          exact ⟨by first | rw [t64]; rfl | rfl, rfl⟩
                      case rest =>
                        obtain ⟨rfl, rfl⟩ := hcut
                        obtain ⟨B23, hB23⟩ : ∃ v, (((c : Int) == 64) && i3) = v := ⟨_, rfl⟩
                        rw [hB23]
                        have HB23 := Lib.hid (show B23 = true ↔ (c = 64 ∧ identZ (cpAt t 0) (cpAt t 1) (cpAt t 2) = true) by
                          rw [← hB23, HXX.out, HYY.out, HZZ.out, HI3.out, Bool.and_eq_true, beq_iff_eq]
                          constructor
                          · rintro ⟨h1, h2⟩; exact ⟨by omega, h2⟩
                          · rintro ⟨h1, h2⟩; exact ⟨by omega, h2⟩)
                        clear hB23
                        cases B23 with
                        | true =>
                          have hb := HB23.out.1 (by first | rfl | trivial)
                          have K := Lib.hid (take_cons b s c t cv o _ H1.out)
                          have HX := Lib.hid (show RES = (⟨1, 0, false, (nameS t).1⟩, (nameS t).2.1, (nameS t).2.2) by
                            rw [← HRES.out]; unfold nextS
                            rw [if_neg (by rw [HW.out]; decide), if_neg HQ.out, if_neg N9.out, if_neg (by rw [HXX.out, HYY.out, HCT.out]; decide), if_neg N15.out, if_neg (by rw [HXX.out, HYY.out, HI0.out]; decide), if_neg N20.out, if_pos hb])
                          clear hb
                          go_wp2_with fail
                          refine (K.out).mono ?_
                          rintro e w2 ⟨rfl, h2, f2⟩
                          go_wp2_with fail
                          refine (nameL b s t cv o _ h2).mono ?_
                          rintro e w3 ⟨rfl, h3, f3⟩
                          have F3 := Lib.hid ((F0.out.trans f2).trans f3)
                          have Z3 := Lib.hid ((Z0.out.fr f2 hR).fr f3 hR)
                          clear f2 f3
                          have zb := Z3.out
                          obtain ⟨c0, c1, c2, c3, c4, c5⟩ := zb.c
                          obtain ⟨z0, z1, z2, z3, z4, z5⟩ := zb.z
                          have ZZ := Lib.hid zb
                          clear zb
                          go_wp2_with fail
                          refine tok_end (R := w.heap.size) rfl rfl rfl ZZ.out ?_
                          rw [HX.out]
                          dsimp only
                          exact ⟨tk_ret rfl rfl rfl rfl rfl rfl, h3.put6 (Ne.symm hR) _ _ _ _ _ _, F3.out.put6 (Nat.le_refl _) _ _ _ _ _ _⟩
                        | false =>
                          have N23 := Lib.hid (show ¬ (c = 64 ∧ identZ (cpAt t 0) (cpAt t 1) (cpAt t 2) = true) from fun h => absurd (HB23.out.2 h) (by decide))
                          have SG := Lib.hid (signL b s c t cv o _ H1.out)
                          have HX := Lib.hid (show RES = (⟨signK c, 0, false, []⟩, t, false) by
                            rw [← HRES.out]; unfold nextS
                            rw [if_neg (by rw [HW.out]; decide), if_neg HQ.out, if_neg N9.out, if_neg (by rw [HXX.out, HYY.out, HCT.out]; decide), if_neg N15.out, if_neg (by rw [HXX.out, HYY.out, HI0.out]; decide), if_neg N20.out, if_neg N23.out])
                          obtain ⟨tk, htk⟩ : ∃ v, (⟨signK c, 0, false, []⟩ : Tk) = v := ⟨_, rfl⟩
                          rw [htk] at HX SG
                          rw [tkV_agg] at SG
                          clear htk
                          go_wp2_with fail
                          refine (SG.out).mono ?_
                          rintro e w2 ⟨rfl, h2, f2⟩
                          have zb := Z0.out.fr f2 hR
                          obtain ⟨c0, c1, c2, c3, c4, c5⟩ := zb.c
                          obtain ⟨z0, z1, z2, z3, z4, z5⟩ := zb.z
                          have ZZ := Lib.hid zb
                          clear zb
                          go_wp2_with fail
                          refine tok_end (R := w.heap.size) rfl rfl rfl ZZ.out ?_
                          rw [HX.out]
                          exact ⟨tk_ret rfl rfl rfl rfl rfl rfl, (show SR b s t cv (o || false) w2 by rw [Bool.or_false]; exact h2).put6 (Ne.symm hR) _ _ _ _ _ _, (F0.out.trans f2).put6 (Nat.le_refl _) _ _ _ _ _ _⟩
end Go.Proofs.YtmgkccnfhkcncaaGreatDoor

namespace Go.Proofs.YtmgkccnfhkcncaaGreatDoor
open Go.RowKit

theorem ite_pos {p : Prop} [Decidable p] {a b : Nat} (h1 : a ≠ 0) (h2 : b ≠ 0) : (if p then a else b) ≠ 0 := by
  by_cases h : p
  · rw [if_pos h]; exact h1
  · rw [if_neg h]; exact h2
theorem signK_pos (c : Nat) : signK c ≠ 0 := by
  unfold signK
  repeat (refine ite_pos (by decide) ?_)
  decide
theorem nextS_kind (c : Nat) (t : List Nat) : (nextS c t).1.kind ≠ 0 := by
  unfold nextS
  split
  · show (38 : Nat) ≠ 0; decide
  split
  · exact ite_pos (by decide) (by decide)
  split
  · show (28 : Nat) ≠ 0; decide
  split
  · unfold numericS
    split
    · show (26 : Nat) ≠ 0; decide
    split
    · show (34 : Nat) ≠ 0; decide
    · show (30 : Nat) ≠ 0; decide
  split
  · show (4 : Nat) ≠ 0; decide
  split
  · unfold namedS
    split
    · show (29 : Nat) ≠ 0; decide
    · split
      · show (29 : Nat) ≠ 0; decide
      split
      · exact ite_pos (by decide) (by decide)
      · show (27 : Nat) ≠ 0; decide
  split
  · show (5 : Nat) ≠ 0; decide
  split
  · show (1 : Nat) ≠ 0; decide
  · exact signK_pos c
theorem commF_len : ∀ (f : Nat) (l : List Nat), (commF f l).1.length + (commF f l).2.1.length ≤ l.length
  | 0, l => by simp [commF]
  | f + 1, l => by
    unfold commF
    by_cases h : cpAt l 0 = 47 ∧ cpAt l 1 = 42
    · rw [if_pos h]
      obtain ⟨t, rfl⟩ := two_len h
      show (match closeS t with | none => _ | some r => _ : List (Nat × Nat) × List Nat × Bool).1.length + (match closeS t with | none => _ | some r => _ : List (Nat × Nat) × List Nat × Bool).2.1.length ≤ _
      cases hc : closeS t with
      | none => simp
      | some r =>
        have h1 := closeS_len _ _ hc
        have h2 := commF_len f r
        simp only [List.length_cons]
        omega
    · rw [if_neg h]; simp
theorem commS_len (l : List Nat) : (commS l).1.length + (commS l).2.1.length ≤ l.length := commF_len _ l
theorem commF_suf : ∀ (f : Nat) (l : List Nat), (commF f l).2.1 <:+ l
  | 0, l => List.suffix_refl _
  | f + 1, l => by
    unfold commF
    by_cases h : cpAt l 0 = 47 ∧ cpAt l 1 = 42
    · rw [if_pos h]
      obtain ⟨t, rfl⟩ := two_len h
      show (match closeS t with | none => _ | some r => _ : List (Nat × Nat) × List Nat × Bool).2.1 <:+ _
      cases hc : closeS t with
      | none => exact List.nil_suffix
      | some r =>
        have h1 := closeS_suf _ _ hc
        exact (commF_suf f r).trans (h1.trans ((List.suffix_cons 42 t).trans (List.suffix_cons 47 (42 :: t))))
    · rw [if_neg h]; exact List.suffix_refl _
theorem commS_suf (l : List Nat) : (commS l).2.1 <:+ l := commF_suf _ l
theorem infoTk : (Tryz.prog.info? 47).map (fun i => (i.zero, i.size, i.bytes)) = some (some (.agg #[.int .i64 0, .int .i64 0, .int .i64 0, .int .i64 0, .bool false, .string ⟨#[]⟩]), 6, 56) := by kernel_rfl
/-- What a slice that is the call's own looks like. -/
theorem row_form {w : World} {base : Nat} {e : TypeId} {size : Nat} {v : Value} {n : Nat} {xs : List Value} (h : w.ownsRow base e size v n xs) : ∃ a c, v = .slice a n c := by
  rcases h.2 with ⟨rfl, rfl⟩ | ⟨g, cap, cur, rfl, _⟩
  · exact ⟨none, 0, rfl⟩
  · exact ⟨_, _, rfl⟩
/-- The loop of Tokens. -/
def TRel (b : Nat) (s : ByteArray) (l : List Nat) (W : World) (ov : Value) (w : World) : Prop :=
  ∃ ov' r cv o acc cacc, ov' = ov ∧ SR b s r cv o w ∧ w.ownsRow (b + 1) 47 6 ov acc.length (cellsT s.size acc) ∧ w.ownsRow (b + 1) 31 2 cv cacc.length (cellsP s.size cacc) ∧ (ov.ownBlock = none ∨ ov.ownBlock ≠ cv.ownBlock) ∧ Below b W w ∧
    Hid (∀ out cs op, TokR out r cs op → TokR (acc ++ out) l (cacc ++ cs) (o || op)) ∧ acc.length + cacc.length + r.length ≤ l.length
/-- A round: comments, a token. -/
theorem tok_more {l r : List Nat} {acc : List Tp} {cacc : List (Nat × Nat)} {o : Bool} (H : ∀ out cs op, TokR out r cs op → TokR (acc ++ out) l (cacc ++ cs) (o || op)) {c : Nat} {t : List Nat} (h : (commS r).2.1 = c :: t) :
    ∀ out cs op, TokR out (nextS c t).2.1 cs op → TokR ((acc ++ [⟨(nextS c t).1, blen (c :: t), blen (nextS c t).2.1⟩]) ++ out) l ((cacc ++ (commS r).1) ++ cs) (((o || (commS r).2.2) || (nextS c t).2.2) || op) := by
  intro out cs op ho
  have := H (⟨(nextS c t).1, blen (c :: t), blen (nextS c t).2.1⟩ :: out) ((commS r).1 ++ cs) ((commS r).2.2 || ((nextS c t).2.2 || op)) ⟨c, t, cs, op, h, rfl, ho, rfl, rfl⟩
  rw [List.append_assoc, List.append_assoc, Bool.or_assoc, Bool.or_assoc]
  exact this
theorem tok_last {l r : List Nat} {acc : List Tp} {cacc : List (Nat × Nat)} {o : Bool} (H : ∀ out cs op, TokR out r cs op → TokR (acc ++ out) l (cacc ++ cs) (o || op)) (h : (commS r).2.1 = []) : TokR acc l (cacc ++ (commS r).1) (o || (commS r).2.2) := by
  have := H [] (commS r).1 (commS r).2.2 ⟨h, rfl, rfl⟩
  rwa [List.append_nil] at this

set_option maxHeartbeats 8000000 in
set_option maxRecDepth 100000 in
theorem tokensL (s : ByteArray) (l : List Nat) (w : World) (hd : s.data.toList = encs l) (hl : ∀ c ∈ l, Cp c) (hz : s.size ≤ 1073741824) :
    Calls Tryz.prog 14 #[.string s] w fun e w' => ∃ ov cv op acc cacc, e = .returned (.tuple #[ov, cv, .bool op]) ∧ TokR acc l cacc op ∧ w'.ownsRow (w.heap.size + 1) 47 6 ov acc.length (cellsT s.size acc) ∧
      w'.ownsRow (w.heap.size + 1) 31 2 cv cacc.length (cellsP s.size cacc) ∧ Below w.heap.size w w' := by
  obtain ⟨i0, hi, hz0, hz1, hz2⟩ := info_parts infoTk
  have hll : l.length ≤ 1073741824 := by have := encs_len_le l; rw [← size_of hd] at this; omega
  have START := Lib.hid (show TRel w.heap.size s l w (.slice none 0 0) (w.alloc (.cells #[.string s, .int .i64 0, .slice none 0 0, .bool false] 46)) from
    ⟨.slice none 0 0, l, .slice none 0 0, false, [], [], rfl, ⟨0, ⟨by rw [List.drop_zero]; exact hd, Nat.zero_le _, hl, by omega⟩, heap_alloc_new _ _⟩, World.ownsRow_nil _ _ _ _, World.ownsRow_nil _ _ _ _, .inl rfl, (Below.refl _ _).alloc (Nat.le_refl _) _,
      Lib.hid (fun out cs op h => by rw [Bool.false_or]; exact h), by simp⟩)
  clear hd hl
  go_enter Tryz.func14, Tryz.ntmps14
  go_wp2_with fail
  go_loopw [6] (fun ov wr => TRel w.heap.size s l w ov wr) (fun _ wr => leftOf w.heap.size s wr)
  case atStart => exact START.out
  case round =>
    obtain ⟨ov, r, cv, o, acc, cacc, rfl, hr, hov, hcv, hne, hB, hH, hlen⟩ := hrel
    clear START
    have hlt := hr.lt
    have C := Lib.hid (commentL w.heap.size s r cv o _ (w.heap.size + 1) cacc.length cacc hr (by omega) (by omega) hcv (by omega))
    have HOV := Lib.hid hov
    have HCV := Lib.hid hcv
    have HNE := Lib.hid hne
    have HB := Lib.hid hB
    have HL := Lib.hid hlen
    have HR := Lib.hid hr
    clear hr hov hcv hne hB hlen
    go_wp2_with fail
    refine (C.out).mono ?_
    rintro e w1 ⟨rfl, cv1, h1, hcv1, f1, n1⟩
    have HOV1 := Lib.hid (row_fc HOV.out f1 (by omega) HNE.out)
    have HNE1 := Lib.hid (show ov.ownBlock = none ∨ ov.ownBlock ≠ cv1.ownBlock by
      rcases n1 with n1 | ⟨g, n1, hg⟩
      · rw [n1]; exact HNE.out
      · right
        intro e
        rw [n1] at e
        have := (HOV.out.lt g e).2
        omega)
    have HB1 := Lib.hid (HB.out.trans (f1.below (Nat.le_refl _) HB.out.size (fun k hk => by have := (HCV.out.lt k hk).1; omega)))
    have HCV1 := Lib.hid hcv1
    have H1 := Lib.hid h1
    have hcl := commS_len r
    clear hcv1 f1 n1 h1
    have hlt1 := H1.out.lt
    obtain ⟨k, hA, d1⟩ := H1.out.c1
    have KB := Lib.hid (blen_at hA)
    have hkz : k ≤ s.size := hA.le
    clear hA
    cases hr1 : (commS r).2.1 with
    | nil =>
      have N := Lib.hid (nextL_nil w.heap.size s cv1 _ w1 (by rw [← hr1]; exact H1.out))
      rw [show tkV ⟨0, 0, false, []⟩ 0 0 = .agg #[.int .i64 0, .int .i64 0, .int .i64 0, .int .i64 0, .bool false, .string ⟨#[]⟩] from rfl] at N
      have TL := Lib.hid (tok_last hH.out hr1)
      clear hr1
      go_wp2_with fail
      refine (N.out).mono ?_
      rintro e w2 ⟨rfl, h2, f2⟩
      have e2 := h2.c2
      have e3 := h2.c3
      have e2A := (h2.alloc (.cells #[.int .i64 0, .int .i64 0, .int .i64 0, .int .i64 0, .bool false, .string ⟨#[]⟩] 47)).c2
      have e3A := (h2.alloc (.cells #[.int .i64 0, .int .i64 0, .int .i64 0, .int .i64 0, .bool false, .string ⟨#[]⟩] 47)).c3
      go_wp2_with fail
      go_quiet (fail)
      go_wp2_with fail
      refine bodyPost_ret (results_tmp3 rfl _ _ _) rfl ?_
      have hfr := (f2.alloc (.cells #[.int .i64 0, .int .i64 0, .int .i64 0, .int .i64 0, .bool false, .string ⟨#[]⟩] 47)).trans (Fr.drewN w.heap.size nq _)
      refine ⟨_, _, _, acc, cacc ++ (commS r).1, rfl, TL.out, row_fr HOV1.out hfr (by omega), ?_, HB1.out.trans (hfr.below (Nat.le_refl _) HB1.out.size)⟩
      rw [List.length_append]
      exact row_fr HCV1.out hfr (by omega)
    | cons c t =>
      have N := Lib.hid (nextL w.heap.size s c t cv1 _ w1 (by rw [← hr1]; exact H1.out))
      have TM := Lib.hid (tok_more hH.out hr1)
      have hkind := nextS_kind c t
      have hsuf := nextS_suf c t
      rw [hr1] at hcl KB
      obtain ⟨tk, htk⟩ : ∃ x, (nextS c t).1 = x := ⟨_, rfl⟩
      obtain ⟨r2, hr2⟩ : ∃ x, (nextS c t).2.1 = x := ⟨_, rfl⟩
      obtain ⟨o2, ho2⟩ : ∃ x, (nextS c t).2.2 = x := ⟨_, rfl⟩
      rw [htk, hr2, ho2] at N TM
      rw [htk] at hkind
      rw [hr2] at hsuf
      rw [tkV_agg] at N
      have t0 : ((tk.kind : Int) == 0) = false := beq_eq_false_iff_ne.2 (by omega)
      have SUF := Lib.hid hsuf
      have HC1 := Lib.hid hr1
      clear htk hr2 ho2 hkind hsuf hr1
      go_wp2_with fail
      refine (N.out).mono ?_
      rintro e w2 ⟨rfl, h2, f2⟩
      obtain ⟨k2, hA2, g1⟩ := h2.c1
      have KE := Lib.hid (blen_at hA2)
      have hk2z : k2 ≤ s.size := hA2.le
      clear hA2
      have g1A : ∀ x, (w2.alloc x).cell? ⟨w.heap.size, 1, none⟩ = some (.int .i64 (k2 : Int)) := fun x => by
        rw [Below.cell ((Below.refl w2.heap.size w2).alloc (Nat.le_refl _) x) (World.block_lt_of_cell? _ _ g1)]; exact g1
      have H2 := Lib.hid h2
      have F2 := Lib.hid f2
      clear h2 f2
      go_upto_region 8 with fail
      go_region
      obtain ⟨R, hR⟩ : ∃ R, w2.heap.size = R := ⟨_, rfl⟩
      obtain ⟨w3, hw3⟩ : ∃ x, (w2.alloc (.cells #[.int .i64 (tk.kind : Int), .int .i64 (k : Int), .int .i64 (k2 : Int), .int .i64 (tk.unit : Int), .bool tk.id, .string (strOf tk.text)] 47)).drew = x := ⟨_, rfl⟩
      have HB3 := Lib.hid (show w3.heap[R]? = some (.cells #[.int .i64 (tk.kind : Int), .int .i64 (k : Int), .int .i64 (k2 : Int), .int .i64 (tk.unit : Int), .bool tk.id, .string (strOf tk.text)] 47 (0, 0)) by
        rw [← hw3, ← hR]; exact heap_alloc_new w2 _)
      have F3 := Lib.hid (show Fr w.heap.size w1 w3 by rw [← hw3]; exact (F2.out.alloc _).drew')
      have H3 := Lib.hid (show SR w.heap.size s r2 cv1 ((o || (commS r).2.2) || o2) w3 by rw [← hw3]; exact H2.out.alloc _)
      rw [hR, hw3]
      have q0 : w3.cell? ⟨R, 0, none⟩ = some (.int .i64 (tk.kind : Int)) := by rw [Lib.cell_of_heap HB3.out]; rfl
      have q1 : w3.cell? ⟨R, 1, none⟩ = some (.int .i64 (k : Int)) := by rw [Lib.cell_of_heap HB3.out]; rfl
      have q2 : w3.cell? ⟨R, 2, none⟩ = some (.int .i64 (k2 : Int)) := by rw [Lib.cell_of_heap HB3.out]; rfl
      have q3 : w3.cell? ⟨R, 3, none⟩ = some (.int .i64 (tk.unit : Int)) := by rw [Lib.cell_of_heap HB3.out]; rfl
      have q4 : w3.cell? ⟨R, 4, none⟩ = some (.bool tk.id) := by rw [Lib.cell_of_heap HB3.out]; rfl
      have q5 : w3.cell? ⟨R, 5, none⟩ = some (.string (strOf tk.text)) := by rw [Lib.cell_of_heap HB3.out]; rfl
      have HOV3 := Lib.hid (row_fr HOV1.out F3.out (by omega))
      have HCV3 := Lib.hid (row_fr HCV1.out F3.out (by omega))
      have HB4 := Lib.hid (HB1.out.trans (F3.out.below (Nat.le_refl _) HB1.out.size))
      have hsz3 : w.heap.size + 1 ≤ w3.heap.size := by have := H3.out.lt; omega
      have hnb : acc.length + 1 ≤ 1073741824 := by
        have h1 := HL.out
        rw [List.length_cons] at hcl; omega
      clear hw3 g1 g1A
      go_wp2_with (at_builtin; refine wpList_append_lies _ rfl _ _ 24 rfl (w.heap.size + 1) 47 i0 _ 6 56 Tryz.underlying24 hi hz0 hz1 hz2 rfl (by decide) ov acc.length (cellsT s.size acc) rfl (HOV3.out.alloc _) ⟨w3.heap.size, 0, none⟩ 1 1 [.int .i64 (tk.kind : Int), .int .i64 (k : Int), .int .i64 (k2 : Int), .int .i64 (tk.unit : Int), .bool tk.id, .string (strOf tk.text)] rfl rfl (World.news_of_block (heap_alloc_new w3 _)) (fun u hu => by simp at hu; rcases hu with rfl | rfl | rfl | rfl | rfl | rfl <;> rfl) (by decide) (by unfold maxLen; omega) (by omega) (by simp; omega) (w3.heap.size + 1) (by simp) ?_; intro g cap w4 hown4 hgrow hat hlt4)
      have S4 := Lib.hid ((H3.out.alloc _).grown hgrow (row_ne HOV3.out (by omega)))
      have hown5 : w4.ownsRow (w.heap.size + 1) 47 6 (.slice (some ⟨g, 0, none⟩) (acc.length + 1) cap) (acc ++ [(⟨tk, blen (c :: t), blen r2⟩ : Tp)]).length (cellsT s.size (acc ++ [(⟨tk, blen (c :: t), blen r2⟩ : Tp)])) := by
        rw [List.length_append, cellsT_append]
        have h1 := KB.out
        have h2 := KE.out
        have h3 : cellsT s.size [(⟨tk, blen (c :: t), blen r2⟩ : Tp)] = [.int .i64 (tk.kind : Int), .int .i64 (k : Int), .int .i64 (k2 : Int), .int .i64 (tk.unit : Int), .bool tk.id, .string (strOf tk.text)] := by
          rw [h1, h2]; rfl
        rw [h3]
        exact hown4
      have hcv5 : w4.ownsRow (w.heap.size + 1) 31 2 cv1 (cacc ++ (commS r).1).length (cellsP s.size (cacc ++ (commS r).1)) := by
        rw [List.length_append]
        refine (HCV3.out.alloc _).kept hgrow ?_
        rcases HNE1.out with h1 | h1
        · rw [h1]
          cases cv1.ownBlock with
          | none => exact .inl rfl
          | some x => exact .inr (by simp)
        · exact .inr (fun e => h1 e.symm)
      have hne5 : Value.ownBlock (.slice (some ⟨g, 0, none⟩) (acc.length + 1) cap) ≠ cv1.ownBlock := by
        intro e
        have e' : some g = cv1.ownBlock := e
        rcases hat with h1 | h1
        · rcases HNE1.out with h2 | h2
          · rw [h2] at h1; cases h1
          · exact h2 (h1.trans e')
        · have := (HCV3.out.lt g e'.symm).2
          omega
      have hB5 : Below w.heap.size w w4 := (HB4.out.alloc (by have := HB4.out.size; omega) _).grown hgrow (by have := HB4.out.size; simp; omega) (fun x hx => by have := (HOV3.out.lt x hx).1; omega)
      go_roundw
      case rel =>
        refine ⟨_, r2, cv1, _, _, _, rfl, S4.out, hown5, hcv5, .inr hne5, hB5, TM, ?_⟩
        have h1 := HL.out
        have h2 := SUF.out.length_le
        simp only [List.length_append, List.length_cons, List.length_nil] at hcl ⊢
        omega
      case measure =>
        rw [S4.out.left, HR.out.left]
        have h1 := suf_enc SUF.out
        have h2 : (commS r).2.1 <:+ r := commS_suf r
        rw [HC1.out] at h2
        exact Nat.lt_of_le_of_lt h1 (Nat.lt_of_lt_of_le (encs_lt c t) (suf_enc h2))
end Go.Proofs.YtmgkccnfhkcncaaGreatDoor
