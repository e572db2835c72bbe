/-
  css_lexer's lexer: consumeToEndOfMultiLineComment.
-/
import Derived.Test.YtmgkccnfhkcncaaGreatDoorLxx
import Derived.Test.YtmgkccnfhkcncaaGreatDoorUrlG
import Derived.Test.YtmgkccnfhkcncaaGreatDoorMR
import Derived.Deep.AppendLies
import Derived.StillTailTactics
import Derived.Deep.DeepCutAuto
namespace Go.Proofs.YtmgkccnfhkcncaaGreatDoor
open Go.RowKit
attribute [local go_sem ↓] Go.wp_at_zero Go.wp_at_succ

/-- The lexer behind some of the comment's work: its level told. -/
def LxK (b : Nat) (G : LogI) (s : ByteArray) (K : Nat) (R : List UInt8) (st : Nat) (uo kd fl : Int) (cs : List (Nat × Nat)) (S : Nat → Prop) (w w' : World) : Prop :=
  ∃ P' S', LR b P' s R st uo kd fl w' ∧ LxS b G s K cs S' P' w' ∧ Fx S w w' ∧ ∀ i, S' i → S i ∨ w.heap.size ≤ i
/-- What the comment's caller sees. -/
def CmtP (b : Nat) (G : LogI) (s : ByteArray) (st : Nat) (uo kd fl : Int) (cs : List (Nat × Nat)) (S : Nat → Prop) (a : Nat) (x : Option (List UInt8)) (w w' : World) : Prop :=
  (∀ R, x = some R → LxP b G s R st uo kd fl (cs ++ [(a, s.size - R.length)]) S w w') ∧ (x = none → LxP b G s [] st uo kd fl cs S w w')
/-- Where the source map's name begins: ahead of every star. -/
def SmP (s : ByteArray) (n p : Nat) : Prop := p ≤ s.size ∧ ∀ k r, AtB s k r → r.length ≤ n → hdB r = 42 → p ≤ k
theorem smp_zero (s : ByteArray) (n : Nat) : SmP s n 0 := ⟨Nat.zero_le _, fun _ _ _ _ _ => Nat.zero_le _⟩
def smB : List UInt8 := [32, 115, 111, 117, 114, 99, 101, 77, 97, 112, 112, 105, 110, 103, 85, 82, 76, 61]
theorem smp_pre {s : ByteArray} {k : Nat} {r : List UInt8} (hA : AtB s k r) (hr : hdB r = 35 ∨ hdB r = 64) (h : Lib.hasPrefix (s.extract (k + 1) s.size).data.toList smB = true) : SmP s r.length (k + 1 + 18) := by
  have hp : smB <+: s.data.toList.drop (k + 1) := by
    have h1 : smB <+: (s.extract (k + 1) s.size).data.toList := List.isPrefixOf_iff_prefix.1 h
    rwa [Lib.extract_to_end] at h1
  obtain ⟨t, ht⟩ := hp
  have hlen := congrArg List.length ht
  rw [List.length_append, List.length_drop, show smB.length = 18 from rfl] at hlen
  have e : s.data.toList.length = s.size := rfl
  refine ⟨by omega, fun k' r' hA' hl h42 => ?_⟩
  have h1 := hA.size
  have h2 := hA'.size
  rcases Nat.lt_or_ge k' (k + 19) with h3 | h3
  · exfalso
    obtain ⟨x, u, rfl, hx, -⟩ := hdB_low (r := r') (c := 42) h42 (by decide)
    have h4 : s.data.toList[k']? = some x := by
      have := congrArg (fun l => l[0]?) hA'.drop
      simpa [List.getElem?_drop] using this
    by_cases h5 : k' = k
    · subst h5
      have h6 := hA.drop
      rw [hA'.drop] at h6
      subst h6
      rw [h42] at hr
      omega
    · obtain ⟨i, rfl⟩ : ∃ i, k' = k + 1 + i := ⟨k' - k - 1, by omega⟩
      have h6 : smB[i]? = some x := by
        rw [← List.getElem?_append_left (l₂ := t) (by show i < 18; omega), ht, List.getElem?_drop]
        exact h4
      have h7 : x ∈ smB := List.mem_of_getElem? h6
      have h8 : ∀ y ∈ smB, y.toNat ≠ 42 := by decide
      exact h8 x h7 hx
  · omega
theorem infoRngC : (Tryz.prog.info? 55).map (fun i => (i.zero, i.size, i.bytes)) = some (some (.agg #[.int .i32 0, .int .i32 0]), 2, 8) := by kernel_rfl
theorem infoCmtC : (Tryz.prog.info? 125).map (fun i => (i.zero, i.size, i.bytes)) = some (some (.agg #[.string ⟨#[]⟩, .int .i32 0, .int .u32 0]), 3, 24) := by kernel_rfl
theorem news_at {w : World} {R : Nat} (hR : w.heap.size = R) (cs : Array Value) (T : TypeId) : ∀ j u, cs.toList[j]? = some u → (w.alloc (.cells cs T)).cell? ((⟨R, 0, none⟩ : Addr).add j) = some u := by
  subst hR
  exact World.news_of_block (heap_alloc_new w _)
theorem row_drew {w : World} {base : Nat} {e : TypeId} {size : Nat} {v : Value} {n : Nat} {xs : List Value} (h : w.ownsRow base e size v n xs) : w.drew.ownsRow base e size v n xs := h
/-- A comment more: the row has grown, its new value stands in the lexer's cell 17. -/
theorem cmt_add {b : Nat} {G : LogI} {s : ByteArray} {k : Nat} {cs : List (Nat × Nat)} {mv cv lv : Value} {nm nL : Nat} {S : Nat → Prop} {P : Nat → Option Value} {r : List UInt8} {st : Nat} {uo kd fl : Int} {w w1 w2 : World} {g cap a e H : Nat} (hL : LR b P s r st uo kd fl w) (hX : Lx b G s k cs mv cv lv nm nL P w) (hS : ∀ i, S i ↔ LxOwn b G mv cv lv i)
    (hb : Below w.heap.size w w1) (hg : w1.grownBy w2 cv.ownBlock) (hat : cv.ownBlock = some g ∨ g = H) (hH : w.heap.size ≤ H) (ho : w2.ownsRow (b + 1) 55 2 (.slice (some ⟨g, 0, none⟩) (cs.length + 1) cap) (cs.length + 1) (rngC cs ++ [.int .i32 (a : Int), .int .i32 ((e : Int) - a)])) :
    ∃ S', LR b (updP P 17 (.slice (some ⟨g, 0, none⟩) (cs.length + 1) cap)) s r st uo kd fl (w2.setCell ⟨b, 17, none⟩ (.slice (some ⟨g, 0, none⟩) (cs.length + 1) cap)) ∧
      LxS b G s (k + 1) (cs ++ [(a, e)]) S' (updP P 17 (.slice (some ⟨g, 0, none⟩) (cs.length + 1) cap)) (w2.setCell ⟨b, 17, none⟩ (.slice (some ⟨g, 0, none⟩) (cs.length + 1) cap)) ∧ Fx S w (w2.setCell ⟨b, 17, none⟩ (.slice (some ⟨g, 0, none⟩) (cs.length + 1) cap)) ∧ ∀ i, S' i → S i ∨ w.heap.size ≤ i := by
  have hlt := hL.lt
  have hb1 := hb.size
  have hrow : ∀ i, cv.ownBlock = some i → b < i := fun i hi => by have := (own_base hX.allR hi).1; omega
  have f : Gro b cv.ownBlock w (w2.setCell ⟨b, 17, none⟩ (.slice (some ⟨g, 0, none⟩) (cs.length + 1) cap)) := ((Fr.of (b := b) hb).gro.trans (Gro.of hg)).trans (Fr.setCell w2 17 _).gro
  obtain ⟨S', h1, h2, h3⟩ := LxS.addC hX hS f (by rw [rngC_app]; exact rowFr ho (Fr.setCell _ _ _) (by omega)) (hat.imp id fun e => by omega)
  exact ⟨S', ((hL.fr hb).gro hg hrow).setP 17 (by omega) (by omega) _, h1, h2, h3⟩
theorem leg_add {b : Nat} {G : LogI} {s : ByteArray} {k : Nat} {cs : List (Nat × Nat)} {mv cv lv : Value} {nm nL : Nat} {S : Nat → Prop} {P : Nat → Option Value} {r : List UInt8} {st : Nat} {uo kd fl : Int} {w w1 w2 : World} {g cap H : Nat} {xs : List Value} (hL : LR b P s r st uo kd fl w) (hX : Lx b G s k cs mv cv lv nm nL P w) (hS : ∀ i, S i ↔ LxOwn b G mv cv lv i)
    (hb : Below w.heap.size w w1) (hg : w1.grownBy w2 lv.ownBlock) (hat : lv.ownBlock = some g ∨ g = H) (hH : w.heap.size ≤ H) (ho : w2.ownsRow (b + 1) 125 3 (.slice (some ⟨g, 0, none⟩) (nL + 1) cap) (nL + 1) xs) (hone : OneC xs) :
    ∃ S', LR b (updP P 18 (.slice (some ⟨g, 0, none⟩) (nL + 1) cap)) s r st uo kd fl (w2.setCell ⟨b, 18, none⟩ (.slice (some ⟨g, 0, none⟩) (nL + 1) cap)) ∧
      LxS b G s (k + 1) cs S' (updP P 18 (.slice (some ⟨g, 0, none⟩) (nL + 1) cap)) (w2.setCell ⟨b, 18, none⟩ (.slice (some ⟨g, 0, none⟩) (nL + 1) cap)) ∧ Fx S w (w2.setCell ⟨b, 18, none⟩ (.slice (some ⟨g, 0, none⟩) (nL + 1) cap)) ∧ ∀ i, S' i → S i ∨ w.heap.size ≤ i := by
  have hlt := hL.lt
  have hb1 := hb.size
  obtain ⟨ys, hys, -⟩ := hX.legR
  have hrow : ∀ i, lv.ownBlock = some i → b < i := fun i hi => by have := (own_base hys hi).1; omega
  have f : Gro b lv.ownBlock w (w2.setCell ⟨b, 18, none⟩ (.slice (some ⟨g, 0, none⟩) (nL + 1) cap)) := ((Fr.of (b := b) hb).gro.trans (Gro.of hg)).trans (Fr.setCell w2 18 _).gro
  obtain ⟨S', h1, h2, h3⟩ := LxS.addL hX hS f (rowFr ho (Fr.setCell _ _ _) (by omega)) hone (hat.imp id fun e => by omega)
  exact ⟨S', ((hL.fr hb).gro hg hrow).setP 18 (by omega) (by omega) _, h1, h2, h3⟩
/-- The source map's name ends. -/
def SmR (Rb sm n : Nat) (w wr : World) : Prop := ∃ j : Nat, j ≤ n ∧ wr.heap[Rb]? = some (.cells #[.int .i32 (sm : Int), .int .i32 (j : Int)] 55 (0, 0)) ∧ Below Rb w wr
theorem numOf_some {w : World} {p : Addr} {k : IntKind} {v : Int} (h : w.cell? p = some (.int k v)) : numOf (w.cell? p) = v := by rw [h]; rfl
theorem LR.pcell {b : Nat} {P : Nat → Option Value} {s : ByteArray} {r : List UInt8} {st : Nat} {uo kd fl : Int} {w : World} (h : LR b P s r st uo kd fl w) (i : Nat) (hi : i < 32 ∨ i = 34) : w.cell? ⟨b, i, none⟩ = P i := by
  obtain ⟨-, -, -, kp, n, -, -, -, hB⟩ := h
  exact hB.p i hi
theorem LxS.c0 {b : Nat} {G : LogI} {s : ByteArray} {k : Nat} {cs : List (Nat × Nat)} {S : Nat → Prop} {P : Nat → Option Value} {w w2 : World} {r : List UInt8} {st : Nat} {uo kd fl : Int} (h : LxS b G s k cs S P w) (hL : LR b P s r st uo kd fl w2) : w2.cell? ⟨b, 0, none⟩ = some (.bool true) := by
  obtain ⟨mv, cv, lv, nm, nL, hx, -⟩ := h
  obtain ⟨-, -, -, kp, n, -, -, -, hB⟩ := hL
  exact (hB.p 0 (by omega)).trans hx.opt
theorem LxS.c19 {b : Nat} {G : LogI} {s : ByteArray} {k : Nat} {cs : List (Nat × Nat)} {S : Nat → Prop} {P : Nat → Option Value} {w w2 : World} {r : List UInt8} {st : Nat} {uo kd fl : Int} (h : LxS b G s k cs S P w) (hL : LR b P s r st uo kd fl w2) :
    (∃ t, w2.cell? ⟨b, 19, none⟩ = some (.string t)) ∧ (∃ x : Int, w2.cell? ⟨b, 20, none⟩ = some (.int .i32 x)) ∧ ∃ x : Int, w2.cell? ⟨b, 21, none⟩ = some (.int .i32 x) := by
  obtain ⟨mv, cv, lv, nm, nL, hx, -⟩ := h
  obtain ⟨-, -, -, kp, n, -, -, -, hB⟩ := hL
  obtain ⟨⟨t, ht⟩, ⟨x, hx1⟩, y, hy⟩ := hx.smu
  exact ⟨⟨t, (hB.p 19 (by omega)).trans ht⟩, ⟨x, (hB.p 20 (by omega)).trans hx1⟩, y, (hB.p 21 (by omega)).trans hy⟩
theorem LR.drew {b : Nat} {P : Nat → Option Value} {s : ByteArray} {r : List UInt8} {st : Nat} {uo kd fl : Int} {w : World} (h : LR b P s r st uo kd fl w) : LR b P s r st uo kd fl w.drew := h.fr (Below.drew (Below.refl _ _))
theorem LxS.drew {b : Nat} {G : LogI} {s : ByteArray} {k : Nat} {cs : List (Nat × Nat)} {S : Nat → Prop} {P : Nat → Option Value} {w : World} (h : LxS b G s k cs S P w) : LxS b G s k cs S P w.drew := h.fr (Fr.of (Below.drew (Below.refl _ _))) (Nat.le_refl _)
/-- The loop. -/
def CmRel (b : Nat) (P : Nat → Option Value) (s : ByteArray) (st : Nat) (uo kd fl : Int) (w : World) (x : Option (List UInt8)) (n : Nat) (wr : World) : Prop :=
  ∃ r', LR b P s r' st uo kd fl wr ∧ Fr b w wr ∧ cmtB r' = x ∧ r'.length ≤ n

set_option maxHeartbeats 16000000 in
set_option maxRecDepth 1000000 in
theorem cmtG (b : Nat) (G : LogI) (P : Nat → Option Value) (s : ByteArray) (r : List UInt8) (st k a : Nat) (uo kd fl len : Int) (cs : List (Nat × Nat)) (S : Nat → Prop) (w : World) (h : LR b P s r st uo kd fl w) (hX : LxS b G s k cs S P w) (hka : k ≤ a) (hB : Bd s a) (har : a + 2 + r.length = s.size) (hl0 : -2147483648 ≤ len) (hl1 : len ≤ 2147483647) :
    Calls Tryz.prog 92 #[.pointer (some ⟨b, 0, none⟩), .agg #[.int .i32 (a : Int), .int .i32 len]] w fun e w' => e = .returned (.tuple #[]) ∧ CmtP b G s st uo kd fl cs S a (cmtB r) w w' := by
  have ST := Lib.hid (fun P r w (h : LR b P s r st uo kd fl w) => stepL b P s r st uo kd fl w h)
  have HPX := Lib.hid (fun s p w => hasPrefI s p w)
  obtain ⟨x, hx⟩ : ∃ x, cmtB r = x := ⟨_, rfl⟩
  rw [hx]
  have HX := Lib.hid hX
  have H0 := Lib.hid h
  have HXX := Lib.hid hx
  have HM := Lib.hid (And.intro hka (And.intro hB har))
  have HLN := Lib.hid (And.intro hl0 hl1)
  have hl := h.lt
  have NB := Lib.hid (show ∀ i, S i → w.heap.size ≤ i → False from fun i hi h2 => by have := hX.lt h.lt i hi; omega)
  clear h hX hka hB har hl0 hl1 hx
  go_enter Tryz.func92, Tryz.ntmps92
  go_upto_region 3 with fail
  obtain ⟨Hb, hHb⟩ : ∃ H, w.heap.size = H := ⟨_, rfl⟩
  obtain ⟨wB, hwB⟩ : ∃ x, w.alloc (.cells #[.int .i32 (a : Int), .int .i32 len] 55) = x := ⟨_, rfl⟩
  have FB := Lib.hid (show Fr b w wB by rw [← hwB]; exact Fr.of ((Below.refl _ _).alloc (Nat.le_refl _) _))
  have HLB := Lib.hid (show LR b P s r st uo kd fl wB by rw [← hwB]; exact H0.out.fr ((Below.refl _ _).alloc (Nat.le_refl _) _))
  have KB : wB.heap[Hb]? = some (.cells #[.int .i32 (a : Int), .int .i32 len] 55 (0, 0)) := by
    have h := heap_alloc_new w (.cells #[.int .i32 (a : Int), .int .i32 len] 55)
    rw [hwB, hHb] at h
    exact h
  have HBN := Lib.hid (show Hb ≠ b by omega)
  have HKB := Lib.hid KB
  rw [hwB, hHb]
  have HSZ := Lib.hid hHb
  clear KB hwB hHb
  obtain ⟨kp, hA, hst, hk, hss, c10, c33, c35, -, -⟩ := HLB.out.reads
  have HA := Lib.hid hA
  have hkz := hA.size
  have HST := Lib.hid hst
  obtain ⟨Q, hQ⟩ : ∃ Q : Value → Value → World → Prop, (fun v4 v5 wx => ∃ (sm : Nat) (lg : Bool), v4 = .int .i64 (sm : Int) ∧ v5 = .bool lg ∧ SmP s r.length sm ∧ LR b P s r st uo kd fl wx ∧ Fr b wB wx) = Q := ⟨_, rfl⟩
  have QI := Lib.hid (show ∀ (sm : Nat) (v : Int) (lg : Bool) (wx : World), v = (sm : Int) → SmP s r.length sm → LR b P s r st uo kd fl wx → Fr b wB wx → Q (.int .i64 v) (.bool lg) wx from fun sm v lg wx e h1 h2 h3 => by rw [← hQ, e]; exact ⟨sm, lg, rfl, rfl, h1, h2, h3⟩)
  have QE := Lib.hid (show ∀ v4 v5 wx, Q v4 v5 wx → ∃ (sm : Nat) (lg : Bool), v4 = .int .i64 (sm : Int) ∧ v5 = .bool lg ∧ SmP s r.length sm ∧ LR b P s r st uo kd fl wx ∧ Fr b wB wx from fun v4 v5 wx h => by rw [← hQ] at h; exact h)
  obtain ⟨cq, hcq⟩ : ∃ cq, hdB r = cq := ⟨_, rfl⟩
  rw [hcq] at c35
  have HCQ := Lib.hid hcq
  clear hA hst hQ hcq
  go_upto_block 0 with fail
  go_cut [4, 5] (fun v4 v5 wx => Q v4 v5 wx)
  case first =>
    as_aux_lemma =>
    by_cases g1 : cq = 35 ∨ cq = 64
    · have g1' : hdB r = 35 ∨ hdB r = 64 := by rw [HCQ.out]; exact g1
      obtain ⟨Kn, hKn⟩ : ∃ K : Nat, kp + widB r = K := ⟨_, rfl⟩
      have hw1 : widB r = 1 := by
        rcases g1' with g | g
        · obtain ⟨x, t, -, -, -, h⟩ := hdB_low (c := 35) g (by decide); exact h
        · obtain ⟨x, t, -, -, -, h⟩ := hdB_low (c := 64) g (by decide); exact h
      have SP := Lib.hid (smp_pre HA.out g1')
      rw [show kp + 1 = Kn by omega] at SP
      rw [hKn] at c33
      have z0 : (0 : Int) ≤ (Kn : Int) := by omega
      have z1 : (Kn : Int) ≤ (s.size : Int) := by omega
      have z3 : (Kn : Int) ≤ 1073741824 := by omega
      have z2 : ((Kn : Int)).toNat = Kn := by omega
      have HP6 := Lib.hid (fun w => hasPrefI (s.extract Kn s.size) ⟨#[32, 115, 111, 117, 114, 99, 101, 77, 97, 112, 112, 105, 110, 103, 85, 82, 76, 61]⟩ w)
      obtain ⟨x6, hx6⟩ : ∃ x, Lib.hasPrefix (s.extract Kn s.size).data.toList smB = x := ⟨_, rfl⟩
      have HP7 := Lib.hid (show ∀ w, Calls Tryz.prog 116 #[.string (s.extract Kn s.size), .string ⟨#[32, 115, 111, 117, 114, 99, 101, 77, 97, 112, 112, 105, 110, 103, 85, 82, 76, 61]⟩] w fun e w' => e = .returned (.bool x6) ∧ w' = w from fun w => (HP6.out w).mono fun e w' h => ⟨by rw [← hx6]; exact h.1, h.2.symm⟩)
      have SQ := Lib.hid (show x6 = true → SmP s r.length (Kn + 18) from fun e => SP.out (by rw [hx6, e]))
      clear hx6 HP6 SP hw1 hKn g1' HCQ
      rcases g1 with rfl | rfl
      all_goals
        go_upto_region 6 with fail
        go_quiet ((go_at_call 116; exact Calls.quiet_of_same (HP7.out _)))
        have H2 := Lib.hid (HLB.out.fr (below_draws _ nq _))
        have F2 := Lib.hid (Fr.drewN b nq wB)
        cases x6
        · go_wp2_with fail
          go_meet
          exact QI.out 0 _ _ _ rfl (smp_zero s _) H2.out F2.out
        · have c33' := (Fr.drewN 0 nq wB)
          go_wp2_with fail
          go_meet
          exact QI.out (Kn + 18) _ _ _ (by omega) (SQ.out (by first | rfl | trivial)) H2.out F2.out
    · have n1 : cq ≠ 35 := fun e => g1 (.inl e)
      have n2 : cq ≠ 64 := fun e => g1 (.inr e)
      have t1 : (cq == 35) = false := beq_eq_false_iff_ne.2 n1
      have t2 : (cq == 64) = false := beq_eq_false_iff_ne.2 n2
      clear g1 n1 n2 HCQ
      by_cases g3 : cq = 33
      · subst g3
        go_wp2_with fail
        go_meet
        exact QI.out 0 _ _ _ rfl (smp_zero s _) HLB.out (Fr.refl _ _)
      · have t3 : (cq == 33) = false := beq_eq_false_iff_ne.2 g3
        clear g3
        go_wp2_with fail
        go_meet
        exact QI.out 0 _ _ _ rfl (smp_zero s _) HLB.out (Fr.refl _ _)
  case rest =>
    obtain ⟨sm, lg, rfl, rfl, hsm, hL0, hF0⟩ := QE.out _ _ _ hcut
    clear hcut QI QE c10 c33 c35 HCQ
    have SM := Lib.hid hsm
    have START := Lib.hid (show CmRel b P s st uo kd fl wc x r.length wc from ⟨r, hL0, Fr.refl _ _, HXX.out, Nat.le_refl _⟩)
    have F0 := Lib.hid (FB.out.trans hF0)
    have HH0 := Lib.hid ((hF0.block Hb (Array.getElem?_eq_some_iff.1 HKB.out).1 HBN.out).trans HKB.out)
    clear hsm hL0 hF0
    go_wp2_with fail
    go_loopw [] (fun wr => CmRel b P s st uo kd fl wc x r.length wr) (fun wr => leftI b s wr)
    case atStart => exact START.out
    case round =>
      obtain ⟨r', hL, hF, hx, hle⟩ := hrel
      clear START
      obtain ⟨k1, hA1, hst1, hk1, -, -, c33, c35, c36, c37⟩ := hL.reads
      have M := Lib.hid hL.left
      have HL := Lib.hid hL
      have HF := Lib.hid (F0.out.trans hF)
      have HH := Lib.hid ((hF.block Hb (Array.getElem?_eq_some_iff.1 HH0.out).1 HBN.out).trans HH0.out)
      have HLEN := Lib.hid hle
      have S2 := Lib.hid (ST.out _ _ _ hL)
      have HX1 := Lib.hid hx
      have A1 := Lib.hid hA1
      have FC := Lib.hid hF
      clear hL hF hle hx
      by_cases g1 : hdB r' = 42
      · have SE := Lib.hid (SM.out.2 k1 r' hA1 HLEN.out g1)
        obtain ⟨x0, t0, ht0, -, ht1, hw1⟩ := hdB_low (c := 42) g1 (by decide)
        rw [g1] at c35
        rw [hw1] at c33
        obtain ⟨K1, hK1⟩ : ∃ K : Nat, k1 + 1 = K := ⟨_, rfl⟩
        rw [hK1] at c33
        have hK1p : (1 : Int) ≤ (K1 : Int) := by omega
        have hK1z : (K1 : Int) ≤ 1073741824 := by omega
        have AT := Lib.hid hA1.tail
        rw [hw1, hK1] at AT
        have G1 := Lib.hid g1
        clear g1 hA1 x0 t0 ht0 ht1 hw1
        by_cases g2 : hdB (tlB r') = 47
        · as_aux_lemma =>
          obtain ⟨x1, t1, ht1, -, ht2, hw2⟩ := hdB_low (c := 47) g2 (by decide)
          obtain ⟨R, hR⟩ : ∃ R, tlB (tlB r') = R := ⟨_, rfl⟩
          have XR := Lib.hid (show x = some R by rw [← HX1.out, ← hR]; exact cmtB_stop G1.out g2)
          have AT2 := AT.out.tail
          rw [hw2, hR] at AT2
          obtain ⟨K2, hK2⟩ : ∃ K : Nat, K1 + 1 = K := ⟨_, rfl⟩
          rw [hK2] at AT2
          have hK2z := AT2.size
          have hK2l : (K2 : Int) ≤ 1073741824 := by omega
          have ha2 : a + 4 ≤ K2 := by have := HM.out.2.2; have := HLEN.out; have := A1.out.size; omega
          have AR := Lib.hid AT2
          have HR := Lib.hid hR
          have G2 := Lib.hid g2
          have W2 := Lib.hid hw2
          clear AT2 x1 t1 ht1 ht2 hw2 g2 hR
          go_wp2_with fail
          refine (S2.out).mono ?_
          rintro e w2 ⟨rfl, h2, f2⟩
          obtain ⟨k2', hA2', -, -, -, -, d33, d35, -, -⟩ := h2.reads
          obtain rfl := AT.out.unique hA2'
          rw [W2.out, hK2] at d33
          rw [G2.out] at d35
          have S3 := Lib.hid (ST.out _ _ _ h2)
          have F2 := Lib.hid (HF.out.trans f2)
          have HH2 := Lib.hid ((f2.block Hb (Array.getElem?_eq_some_iff.1 HH.out).1 HBN.out).trans HH.out)
          have hKK := Lib.hid hK1
          have hKK2 := Lib.hid hK2
          clear h2 f2 hA2' c33 c35 c36 c37 hK1 hK2
          go_wp2_with fail
          refine (S3.out).mono ?_
          rintro e w3 ⟨rfl, h3, f3⟩
          rw [HR.out] at h3
          have H3 := Lib.hid h3
          have F3 := Lib.hid (F2.out.trans f3)
          have HH3 := Lib.hid ((f3.block Hb (Array.getElem?_eq_some_iff.1 HH2.out).1 HBN.out).trans HH2.out)
          have X3 := Lib.hid (HX.out.fr (k' := k) F3.out (Nat.le_refl _))
          clear h3 f3 d33 d35
          go_upto_if 64 with fail
          go_cut [] (fun wx => ∃ P2, LR b P2 s R st uo kd fl wx ∧ LxS b G s k cs S P2 wx ∧ Fr b w3 wx)
          case first =>
            by_cases h0 : sm = 0
            · have tz : ((sm : Int) != 0) = false := by rw [h0]; rfl
              clear h0
              go_wp2_with fail
              go_meet
              exact ⟨P, H3.out, X3.out, Fr.refl _ _⟩
            · as_aux_lemma =>
              have tz : ((sm : Int) != 0) = true := bne_iff_ne.2 (by omega)
              rw [tz]
              clear tz
              obtain ⟨-, -, -, -, -, d10, -, -, -, -⟩ := H3.out.reads
              have hl3 := H3.out.lt
              have hsk : sm + 1 ≤ K1 := by have := SE.out; have := hKK.out; omega
              have i0 : (0 : Int) ≤ (sm : Int) := by omega
              have i1 : (sm : Int) ≤ (K1 : Int) - 1 := by omega
              have i2 : (K1 : Int) - 1 ≤ (s.size : Int) := by have := AT.out.size; omega
              have i3 : (sm : Int) ≤ 1073741824 := by omega
              have i4 : ((K1 : Int) - 1).toNat = K1 - 1 := by omega
              have i5 : ((sm : Int)).toNat = sm := by omega
              obtain ⟨tx, htx⟩ : ∃ t, s.extract sm (K1 - 1) = t := ⟨_, rfl⟩
              have hxz : tx.size ≤ 1073741824 := by rw [← htx]; simp only [ByteArray.size_extract]; omega
              clear h0 hsk
              go_upto_region 20 with fail
              obtain ⟨Rb, hRb⟩ : ∃ H, w3.heap.size = H := ⟨_, rfl⟩
              obtain ⟨w4, hw4⟩ : ∃ x, w3.alloc (.cells #[.int .i32 (sm : Int), .int .i32 0] 55) = x := ⟨_, rfl⟩
              have K4 : w4.heap[Rb]? = some (.cells #[.int .i32 (sm : Int), .int .i32 0] 55 (0, 0)) := by
                have h := heap_alloc_new w3 (.cells #[.int .i32 (sm : Int), .int .i32 0] 55)
                rw [hw4, hRb] at h
                exact h
              have B4 := Lib.hid (show Below Rb w3 w4 by rw [← hw4, ← hRb]; exact (Below.refl _ _).alloc (Nat.le_refl _) _)
              have d10' : w4.cell? ⟨b, 10, none⟩ = some (.string s) := (B4.out.cell (p := ⟨b, 10, none⟩) (by rw [← hRb]; exact hl3)).trans d10
              have HK4 := Lib.hid K4
              have HRb := Lib.hid hRb
              rw [hw4, hRb]
              clear K4 hw4 hRb d10
              go_wp2_with fail
              have L4 := Lib.hid (H3.out.fr (below_le0 B4.out (by rw [HRb.out]; exact Nat.le_refl _)))
              clear d10'
              go_loopw [] (fun wr => SmR Rb sm tx.size w4 wr) (fun wr => tx.size - (numOf (wr.cell? ⟨Rb, 1, none⟩)).toNat)
              case atStart => exact ⟨0, Nat.zero_le _, HK4.out, Below.refl _ _⟩
              case round =>
                obtain ⟨j, hj, hc, hb⟩ := hrel
                have q0 : wr.cell? ⟨Rb, 0, none⟩ = some (.int .i32 (sm : Int)) := by rw [Lib.cell_of_heap hc]; rfl
                have q1 : wr.cell? ⟨Rb, 1, none⟩ = some (.int .i32 (j : Int)) := by rw [Lib.cell_of_heap hc]; rfl
                have q2 := Lib.frozen_of_heap hc 1
                have HC := Lib.hid hc
                have HB := Lib.hid hb
                have BB := Lib.hid (show Below Rb w3 wr from B4.out.trans hb)
                have LW := Lib.hid (H3.out.fr (below_le0 BB.out (by rw [HRb.out]; exact Nat.le_refl _)))
                have z19 := LW.out.fz 19
                have z20 := LW.out.fz 20
                have z21 := LW.out.fz 21
                obtain ⟨⟨v19, c19⟩, ⟨v20, c20⟩, v21, c21⟩ := X3.out.c19 LW.out
                have LS := Lib.hid (X3.out.fr (k' := k) (Fr.of (b := b) (below_le0 BB.out (by rw [HRb.out]; exact Nat.le_refl _))) (Nat.le_refl _))
                have QM := Lib.hid (numOf_some q1)
                have j0 : (0 : Int) ≤ (j : Int) := by omega
                have j2 : ((j : Int)).toNat = j := by omega
                have j3 : (j : Int) ≤ (tx.size : Int) := by omega
                have hbR : b ≠ Rb := by have := HRb.out; omega
                clear hc hb
                by_cases hj2 : j < tx.size
                · have g1 : decide ((j : Int) < (tx.size : Int)) = true := decide_eq_true (by omega)
                  have j1 : (j : Int) < (tx.size : Int) := by omega
                  obtain ⟨y, hy⟩ : ∃ y, tx[j] = y := ⟨_, rfl⟩
                  have hy1 : y.toNat ≤ 255 := by have := y.toNat_lt; omega
                  obtain ⟨v, hv⟩ : ∃ v, spB (y.toNat : Int) = v := ⟨_, rfl⟩
                  have W := Lib.hid (fun w => lexSpace (y.toNat : Int) w)
                  rw [hv] at W
                  clear hv
                  cases v
                  · go_wp2_with (go_at_call 62; refine (W.out _).mono ?_; rintro e w' ⟨rfl, rfl⟩)
                    go_roundw
                    case rel =>
                      exact ⟨j + 1, hj2, heap_put HC.out 1 (.int .i32 ((j : Int) + 1)), HB.out.setCell (p := ⟨Rb, 1, none⟩) (Nat.le_refl _) _⟩
                    case measure =>
                      rw [QM.out, numOf_some (show (wr.setCell ⟨Rb, 1, none⟩ (.int .i32 ((j : Int) + 1))).cell? ⟨Rb, 1, none⟩ = some (.int .i32 ((j : Int) + 1)) by rw [Lib.cell_of_heap (heap_put HC.out 1 _)]; rfl)]
                      omega
                  · as_aux_lemma =>
                    go_upto_region 23 with (go_at_call 62; refine (W.out _).mono ?_; rintro e w' ⟨rfl, rfl⟩)
                    go_region_held3 (fun w' => w'.cell? ⟨Rb, 0, none⟩ = some (.int .i32 (sm : Int)) ∧ w'.cell? ⟨Rb, 1, none⟩ = some (.int .i32 (j : Int))) (go_keep) (fail)
                    go_wp2_with fail
                    go_meet
                    exact ⟨_, ((LW.out.drew.setP 19 (by omega) (by omega) _).setP 20 (by omega) (by omega) _).setP 21 (by omega) (by omega) _, LS.out.drew.smu _ _ _, (((Fr.of (b := b) (below_le0 BB.out (by rw [HRb.out]; exact Nat.le_refl _)).drew).trans (Fr.setCell _ 19 _)).trans (Fr.setCell _ 20 _)).trans (Fr.setCell _ 21 _)⟩
                · as_aux_lemma =>
                  have g1 : decide ((j : Int) < (tx.size : Int)) = false := decide_eq_false (by omega)
                  go_upto_region 23 with fail
                  go_region_held3 (fun w' => w'.cell? ⟨Rb, 0, none⟩ = some (.int .i32 (sm : Int)) ∧ w'.cell? ⟨Rb, 1, none⟩ = some (.int .i32 (j : Int))) (go_keep) (fail)
                  go_wp2_with fail
                  go_meet
                  exact ⟨_, ((LW.out.drew.setP 19 (by omega) (by omega) _).setP 20 (by omega) (by omega) _).setP 21 (by omega) (by omega) _, LS.out.drew.smu _ _ _, (((Fr.of (b := b) (below_le0 BB.out (by rw [HRb.out]; exact Nat.le_refl _)).drew).trans (Fr.setCell _ 19 _)).trans (Fr.setCell _ 20 _)).trans (Fr.setCell _ 21 _)⟩
          case rest =>
            as_aux_lemma =>
            obtain ⟨P2, hL4, hX4, hF4⟩ := hcut
            have F4 := Lib.hid (F3.out.trans hF4)
            have HH4 := Lib.hid ((hF4.block Hb (Array.getElem?_eq_some_iff.1 HH3.out).1 HBN.out).trans HH3.out)
            have d0 : wc.cell? ⟨Hb, 0, none⟩ = some (.int .i32 (a : Int)) := by rw [Lib.cell_of_heap HH4.out]; rfl
            have c0 := hX4.c0 hL4
            have hl4 := hL4.lt
            have H4 := Lib.hid hL4
            have X4 := Lib.hid hX4
            have a0 : (0 : Int) ≤ (a : Int) := by omega
            have a1 : (a : Int) ≤ 1073741824 := by omega
            have a2 : (a : Int) ≤ (K2 : Int) := by omega
            have a3 : ((a : Int)).toNat = a := by omega
            have k2 : ((K2 : Int)).toNat = K2 := by omega
            have k3 : (K2 : Int) ≤ (s.size : Int) := by omega
            have hHb4 : Hb < wc.heap.size := (Array.getElem?_eq_some_iff.1 HH4.out).1
            clear hL4 hX4 hF4 X3 HH3 H3 hK1p hK1z
            go_upto_region 26 with fail
            obtain ⟨Cb, hCb⟩ : ∃ H, wc.heap.size = H := ⟨_, rfl⟩
            obtain ⟨w5, hw5⟩ : ∃ x, wc.alloc (.cells #[.int .i32 (a : Int), .int .i32 ((K2 : Int) - (a : Int))] 55) = x := ⟨_, rfl⟩
            have K5 : w5.heap[Cb]? = some (.cells #[.int .i32 (a : Int), .int .i32 ((K2 : Int) - (a : Int))] 55 (0, 0)) := by
              have h := heap_alloc_new wc (.cells #[.int .i32 (a : Int), .int .i32 ((K2 : Int) - (a : Int))] 55)
              rw [hw5, hCb] at h
              exact h
            have B5 := Lib.hid (show Below Cb wc w5 by rw [← hw5, ← hCb]; exact (Below.refl _ _).alloc (Nat.le_refl _) _)
            rw [hw5, hCb]
            have HCb := Lib.hid hCb
            have HK5 := Lib.hid K5
            have L5 := Lib.hid (H4.out.fr (below_le0 B5.out (by rw [HCb.out]; exact Nat.le_refl _)))
            have X5 := Lib.hid (X4.out.fr (k' := k) (Fr.of (b := b) (below_le0 B5.out (by rw [HCb.out]; exact Nat.le_refl _))) (Nat.le_refl _))
            have HH5 := Lib.hid ((B5.out.block Hb (by omega)).trans HH4.out)
            have F5 := Lib.hid (F4.out.trans (Fr.of (below_le0 B5.out (by rw [HCb.out]; exact Nat.le_refl _))))
            have hCbb : Cb ≠ b := by omega
            clear K5 hw5 hCb d0 c0 hHb4
            obtain ⟨mv, cv, lv, nm, nL, hx5, hS5⟩ := X5.out
            obtain ⟨i0, hi, hz0, hz1, hz2⟩ := parts_of infoRngC
            have hcl := hx5.cnt
            have hb5 := L5.out.lt
            have OWN := Lib.hid hx5.allR
            obtain ⟨oa, oc, rfl⟩ := rowForm hx5.allR
            have c17 := (L5.out.pcell 17 (by omega)).trans hx5.all
            have z17 := L5.out.fz 17
            have q0 : w5.cell? ⟨Cb, 0, none⟩ = some (.int .i32 (a : Int)) := by rw [Lib.cell_of_heap HK5.out]; rfl
            have q1 : w5.cell? ⟨Cb, 1, none⟩ = some (.int .i32 ((K2 : Int) - (a : Int))) := by rw [Lib.cell_of_heap HK5.out]; rfl
            have HX5 := Lib.hid hx5
            have HS5 := Lib.hid hS5
            have h5s : b + 1 ≤ w5.heap.size := hb5
            have hn5 : cs.length + 1 ≤ 1073741825 := by have := HM.out.1; omega
            clear hx5 hS5 hcl
            go_cut [] (fun wx => ∃ P3 S3, LR b P3 s R st uo kd fl wx ∧ LxS b G s (k + 1) (cs ++ [(a, K2)]) S3 P3 wx ∧ Fx S w5 wx ∧ (∀ i, S3 i → S i ∨ w5.heap.size ≤ i))
            case first =>
              as_aux_lemma =>
              go_region_law ((refine step_append_lies _ (by rfl) (.tmp 123) (.tmp 125) 50 (by rfl) (b + 1) 55 i0 _ 2 8 Tryz.underlying50 hi hz0 hz1 hz2 rfl (by decide) _ cs.length (rngC cs) (by rfl) ((row_drew OWN.out).alloc _) ⟨_, 0, none⟩ 1 1 [.int .i32 (a : Int), .int .i32 ((K2 : Int) - (a : Int))] (by rfl) (by rfl) (news_at rfl _ _) (fun u hu => by simp at hu; rcases hu with rfl | rfl <;> rfl) (by decide) (by unfold maxLen; omega) (by omega) (by simp [World.drew]; omega) (w5.heap.size + 1) (by simp [World.drew]) ?_; intro g cap w6 hown6 hgrow hat hlt6; have ADD := Lib.hid (cmt_add L5.out HX5.out HS5.out ((Below.drew (Below.refl _ _)).alloc (Nat.le_refl _) _) hgrow hat (Nat.le_succ _) hown6); have y17 := ((L5.out.drew.fr ((Below.refl _ _).alloc (Nat.le_refl _) _)).gro hgrow (fun i hi => by have := (OWN.out.lt i hi).1; omega)).fz 17; have v17 := (((L5.out.drew.fr ((Below.refl _ _).alloc (Nat.le_refl _) _)).gro hgrow (fun i hi => by have := (OWN.out.lt i hi).1; omega)).pcell 17 (by omega)).trans HX5.out.all))
              all_goals
                go_wp2_with fail
                go_meet
                exact ⟨_, ADD.out⟩
            case rest =>
              as_aux_lemma =>
              obtain ⟨P3, S3, hL6, hX6, hF6, hS6⟩ := hcut
              have n5 : ∀ i, w.heap.size ≤ i → i < w5.heap.size → ¬ S i := fun i h1 h2 h3 => NB.out i h3 h1
              have HH6 := Lib.hid ((hF6.block Hb (Array.getElem?_eq_some_iff.1 HH5.out).1 (fun h => NB.out Hb h (by rw [← HSZ.out]; exact Nat.le_refl _))).trans HH5.out)
              have K6 := Lib.hid ((hF6.block Cb (Array.getElem?_eq_some_iff.1 HK5.out).1 (fun h => NB.out Cb h (by have := F4.out.size; have := HCb.out; omega))).trans HK5.out)
              have F6 := Lib.hid ((F5.out.fx HX.out.own).trans hF6 (fun _ hi => .inl hi))
              have S6 := Lib.hid (show ∀ i, S3 i → S i ∨ w.heap.size ≤ i from fun i hi => (hS6 i hi).imp id fun h => Nat.le_trans F5.out.size h)
              have d0 : wc.cell? ⟨Hb, 0, none⟩ = some (.int .i32 (a : Int)) := by rw [Lib.cell_of_heap HH6.out]; rfl
              have q0 : wc.cell? ⟨Cb, 0, none⟩ = some (.int .i32 (a : Int)) := by rw [Lib.cell_of_heap K6.out]; rfl
              have q1 : wc.cell? ⟨Cb, 1, none⟩ = some (.int .i32 ((K2 : Int) - (a : Int))) := by rw [Lib.cell_of_heap K6.out]; rfl
              obtain ⟨-, -, -, -, hsz, c10, -, -, -, -⟩ := hL6.reads
              have H6 := Lib.hid hL6
              have X6 := Lib.hid hX6
              have hlb6 := hL6.lt
              have CT := Lib.hid (fun (t : ByteArray) (w : World) (h : t.size ≤ 1073741824) => containI t w h)
              have CW := Lib.hid (show ∀ w2, LR b P3 s R st uo kd fl w2 → _ from fun w2 h2 => by
                obtain ⟨hT, hP, hs, kq, nq, -, -, -, hB⟩ := h2
                exact cwiI b P3 s _ _ _ _ _ _ _ _ a K2 w2 hT hP hB hs (by omega) (by omega))
              clear hL6 hX6 hF6 hS6 n5 c17 z17 h5s hn5 hb5 hCbb
              go_upto_region 27 with fail
              go_quiet (fail)
              obtain ⟨tx, htx⟩ : ∃ t, s.extract a K2 = t := ⟨_, rfl⟩
              have htz : tx.size ≤ 1073741824 := by rw [← htx]; simp only [ByteArray.size_extract]; omega
              have D6 := Lib.hid (below_draws wc.heap.size nq wc)
              obtain ⟨wd, hwd⟩ : ∃ x, wc.drewN nq = x := ⟨_, rfl⟩
              rw [htx, hwd]
              rw [hwd] at D6
              have HTX := Lib.hid htx
              have FIN := Lib.hid (show ∀ (P' : Nat → Option Value) (S' : Nat → Prop) (w' : World), LR b P' s R st uo kd fl w' → LxS b G s K2 (cs ++ [(a, K2)]) S' P' w' → Fx S w w' → (∀ i, S' i → S i ∨ w.heap.size ≤ i) → CmtP b G s st uo kd fl cs S a x w w' from fun P' S' w' g1 g2 g3 g4 => by
                have e : s.size - R.length = K2 := by omega
                refine ⟨fun R' hR' => ?_, fun hn => ?_⟩
                · rw [XR.out] at hR'
                  obtain rfl := Option.some.inj hR'
                  rw [e]
                  exact ⟨P', S', g1, by rw [e]; exact g2, g3, g4⟩
                · rw [XR.out] at hn
                  cases hn)
              have HKK := Lib.hid (show k + 2 ≤ K2 by have := HM.out.1; omega)
              clear htx hwd d0 q0 q1 c10
              go_upto_region 28 with fail
              go_cut [143] (fun v wx => ∃ q : Bool, v = .bool q ∧ Below wd.heap.size wd wx)
              case first =>
                cases lg
                · go_wp2_with fail
                  refine (CT.out tx _ htz).mono ?_
                  rintro e w7 ⟨⟨q, rfl⟩, hb7⟩
                  go_wp2_with fail
                  go_meet
                  exact ⟨q, rfl, hb7⟩
                · go_wp2_with fail
                  go_meet
                  exact ⟨true, rfl, Below.refl _ _⟩
              case rest =>
                obtain ⟨q, rfl, hb7⟩ := hcut
                have B7 := Lib.hid (D6.out.trans (below_le0 hb7 D6.out.size))
                have L7 := Lib.hid (H6.out.fr B7.out)
                have X7 := Lib.hid (X6.out.fr (k' := k + 1) (Fr.of B7.out) (Nat.le_refl _))
                have HH7 := Lib.hid ((B7.out.block Hb (Array.getElem?_eq_some_iff.1 HH6.out).1).trans HH6.out)
                have K7 := Lib.hid ((B7.out.block Cb (Array.getElem?_eq_some_iff.1 K6.out).1).trans K6.out)
                have F7 := Lib.hid (F6.out.trans (S' := S) (Below.fx B7.out) (fun _ hi => .inl hi))
                clear hb7
                cases q
                · go_wp2_with fail
                  refine bodyPost_ret (results_none rfl _ _ _) rfl ?_
                  exact ⟨rfl, FIN.out _ _ _ L7.out (X7.out.fr (Fr.refl _ _) (by have := HKK.out; omega)) F7.out S6.out⟩
                · as_aux_lemma =>
                  have tok7 : True := trivial
                  have q0 : wc.cell? ⟨Cb, 0, none⟩ = some (.int .i32 (a : Int)) := by rw [Lib.cell_of_heap K7.out]; rfl
                  have q1 : wc.cell? ⟨Cb, 1, none⟩ = some (.int .i32 ((K2 : Int) - (a : Int))) := by rw [Lib.cell_of_heap K7.out]; rfl
                  have hCl := (Array.getElem?_eq_some_iff.1 K7.out).1
                  go_upto_region 29 with fail
                  go_region_held3 (fun w' => w'.cell? ⟨Cb, 0, none⟩ = some (.int .i32 (a : Int)) ∧ w'.cell? ⟨Cb, 1, none⟩ = some (.int .i32 ((K2 : Int) - (a : Int)))) (go_keep)
                    ((go_at_call 118; refine (CW.out _ L7.out.drew).mono ?_; rintro e w8 ⟨⟨tt, rfl⟩, hb8⟩; have j0 := (hb8.cell (p := ⟨Cb, 0, none⟩) hCl).trans q0; have j1 := (hb8.cell (p := ⟨Cb, 1, none⟩) hCl).trans q1; have HB8 := Lib.hid hb8; clear hb8))
                  have B8 := Lib.hid (below_undrew HB8.out)
                  have L8 := Lib.hid (L7.out.fr B8.out)
                  have X8 := Lib.hid (X7.out.fr (k' := k + 1) (Fr.of B8.out) (Nat.le_refl _))
                  have HH8 := Lib.hid ((B8.out.block Hb (Array.getElem?_eq_some_iff.1 HH7.out).1).trans HH7.out)
                  have F8 := Lib.hid (F7.out.trans (S' := S) (Below.fx B8.out) (fun _ hi => .inl hi))
                  have e0 : w8.cell? ⟨Hb, 0, none⟩ = some (.int .i32 (a : Int)) := by rw [Lib.cell_of_heap HH8.out]; rfl
                  obtain ⟨i2, hi2, hy0, hy1, hy2⟩ := parts_of infoCmtC
                  obtain ⟨mv2, cv2, lv2, nm2, nL2, hx8, hS8⟩ := X8.out
                  obtain ⟨xs8, hx8r, hx81⟩ := hx8.legR
                  have OWN8 := Lib.hid hx8r
                  have ONE8 := Lib.hid hx81
                  obtain ⟨oa8, oc8, rfl⟩ := rowForm hx8r
                  have c18 := (L8.out.pcell 18 (by omega)).trans hx8.leg
                  have z18 := L8.out.fz 18
                  have hn8 : nL2 + 1 ≤ 1073741825 := by have := hx8.cnt; have := HM.out.1; omega
                  have h8s : b + 1 ≤ w8.heap.size := L8.out.lt
                  have hb8l := L8.out.lt
                  have hHb8 : Hb < w8.heap.size := (Array.getElem?_eq_some_iff.1 HH8.out).1
                  have HX8 := Lib.hid hx8
                  have HS8 := Lib.hid hS8
                  clear hx8 hS8 hx8r hx81 q0 q1 j0 j1
                  go_upto_region 30 with fail
                  go_region_law ((refine step_append_lies _ (by rfl) (.tmp 153) (.tmp 158) 51 (by rfl) (b + 1) 125 i2 _ 3 24 Tryz.underlying51 hi2 hy0 hy1 hy2 rfl (by decide) _ nL2 xs8 (by rfl) ((row_drew OWN8.out).alloc _) ⟨_, 0, none⟩ 1 1 [.string tt, .int .i32 (a : Int), .int .u32 0] (by rfl) (by rfl) (news_at rfl _ _) (fun u hu => by simp at hu; rcases hu with rfl | rfl | rfl <;> rfl) (by decide) (by unfold maxLen; omega) (by omega) (by simp [World.drew]; omega) (w8.heap.size + 1) (by simp [World.drew]) ?_; intro g cap w9 hown9 hgrow hat hlt9; have ADD := Lib.hid (leg_add L8.out HX8.out HS8.out ((Below.drew (Below.refl _ _)).alloc (Nat.le_refl _) _) hgrow hat (Nat.le_succ _) hown9 (ONE8.out.more _ _ _)); have y18 := ((L8.out.drew.fr ((Below.refl _ _).alloc (Nat.le_refl _) _)).gro hgrow (fun i hi => by have := (OWN8.out.lt i hi).1; omega)).fz 18; have v18 := (((L8.out.drew.fr ((Below.refl _ _).alloc (Nat.le_refl _) _)).gro hgrow (fun i hi => by have := (OWN8.out.lt i hi).1; omega)).pcell 18 (by omega)).trans HX8.out.leg))
                  all_goals
                    obtain ⟨S9, g1, g2, g3, g4⟩ := ADD.out
                    have FIN9 := Lib.hid (FIN.out _ _ _ g1 (g2.fr (Fr.refl _ _) (by have := HKK.out; omega)) (F8.out.trans g3 (fun i hi => S6.out i hi)) (fun i hi => (g4 i hi).elim (fun h => S6.out i h) (fun h => .inr (Nat.le_trans F8.out.size h))))
                    clear g1 g2 g3 g4
                    go_wp2_with fail
                    refine bodyPost_ret (results_none rfl _ _ _) rfl ?_
                    exact ⟨rfl, FIN9.out⟩
        · have e1 := cmtB_star G1.out g2
          have X := Lib.hid (show cmtB (tlB r') = x by rw [← e1]; exact HX1.out)
          have LT := Lib.hid (show (tlB r').length < r'.length from tl_lt G1.out (by decide))
          have G2 := Lib.hid g2
          clear g2 e1
          go_wp2_with fail
          refine (S2.out).mono ?_
          rintro e w2 ⟨rfl, h2, f2⟩
          obtain ⟨-, -, -, -, -, -, -, d35, -, -⟩ := h2.reads
          obtain ⟨cq, hcq⟩ : ∃ cq, hdB (tlB r') = cq := ⟨_, rfl⟩
          rw [hcq] at d35
          have t1 : (cq == 47) = false := beq_eq_false_iff_ne.2 (by rw [← hcq]; exact G2.out)
          have H2 := Lib.hid h2
          have F2 := Lib.hid (FC.out.trans f2)
          clear h2 f2 hcq c33 c35 c36 c37
          go_wp2_with fail
          go_roundw
          case rel => exact ⟨_, H2.out, F2.out, X.out, by have := LT.out; have := HLEN.out; omega⟩
          case measure => rw [H2.out.left, M.out]; exact LT.out
      · by_cases g2 : hdB r' = -1
        · as_aux_lemma =>
          have XN := Lib.hid (show x = none by rw [← HX1.out]; exact cmtB_none g2)
          have BP := Lib.hid (bd_head hA1 (by rw [g2]; decide))
          have hz1 := hA1.size
          have hnil := hdB_end g2
          have KPZ := Lib.hid (show k1 = s.size by rw [hnil] at hz1; simpa using hz1)
          have HN := Lib.hid hnil
          rw [g2] at c35
          have t1 : ((-1 : Int) == 42) = false := by decide
          obtain ⟨hka, hBa, har⟩ := HM.out
          obtain ⟨hl0, hl1⟩ := HLN.out
          have E := Lib.hid (fun w => rangeEndI st k1 w hst1 (by omega))
          have X1 := Lib.hid (HX.out.fr (k' := k) HF.out (Nat.le_refl _))
          have TM := Lib.hid (fun (P2 : Nat → Option Value) (tx : ByteArray) w2 (hL2 : LR b P2 s r' st uo kd fl w2) (hX2 : LxS b G s k cs S P2 w2) => tellM b G s r' st k a uo kd fl len tx cs S P2 w2 hL2 hX2 hka hBa hl0 hl1)
          have TE := Lib.hid (fun (P2 : Nat → Option Value) (tx : ByteArray) (na : Option Addr) (nl nc : Nat) w2 (hL2 : LR b P2 s r' st uo kd fl w2) (hX2 : LxS b G s a cs S P2 w2) => tellEN b G s r' st a k1 k1 uo kd fl 0 tx na nl nc cs S P2 w2 hL2 hX2 (by have := KPZ.out; omega) (by have := KPZ.out; omega) (Nat.le_refl _) hA1.le BP.out (by decide) (by decide))
          unfold LogI.val logV at TE
          have HKA := Lib.hid hA1
          obtain ⟨d1, d2, d3, d4, d5, d6⟩ := X1.out.c16 HL.out
          have d7 : wr.cell? ⟨Hb, 0, none⟩ = some (.int .i32 (a : Int)) := by rw [Lib.cell_of_heap HH.out]; rfl
          have d8 : wr.cell? ⟨Hb, 1, none⟩ = some (.int .i32 len) := by rw [Lib.cell_of_heap HH.out]; rfl
          have hlr := HL.out.lt
          have hHl := (Array.getElem?_eq_some_iff.1 HH.out).1
          have HBL := Lib.hid hHl
          clear g1 g2 hka hBa har hl0 hl1 hA1 hz1 hnil c33 t1
          go_upto_region 32 with fail
          have LQ := Lib.hid HL.out.drew
          have XQ := Lib.hid X1.out.drew
          have FQ := Lib.hid (HF.out.trans (Fr.of (Below.drew (Below.refl wr.heap.size wr))))
          have HQ := Lib.hid (show wr.drew.heap[Hb]? = _ from HH.out)
          have KPQ := Lib.hid (show s.size - r'.length = k1 by rw [HN.out, KPZ.out]; rfl)
          go_region_held3 (fun w' => w'.cell? ⟨b, 1, none⟩ = some (.func (.func 71) #[] #[.pointer (some ⟨G.gk, 0, none⟩), .pointer (some ⟨G.gm, 0, none⟩), .pointer (some ⟨G.gh, 0, none⟩), .pointer (some ⟨G.gs, 0, none⟩)]) ∧ w'.cell? ⟨b, 2, none⟩ = some (.func G.g2 #[] G.c2) ∧ w'.cell? ⟨b, 3, none⟩ = some (.func G.g3 #[] G.c3) ∧ w'.cell? ⟨b, 4, none⟩ = some (.func G.g4 #[] G.c4) ∧ w'.cell? ⟨b, 5, none⟩ = some (.int .i8 3) ∧ w'.cell? ⟨b, 6, none⟩ = some (.map none) ∧ w'.cell? ⟨b, 36, none⟩ = some (.int .i32 (st : Int)) ∧ w'.cell? ⟨b, 37, none⟩ = some (.int .i32 ((k1 : Int) - st)) ∧ w'.cell? ⟨Hb, 0, none⟩ = some (.int .i32 (a : Int)) ∧ w'.cell? ⟨Hb, 1, none⟩ = some (.int .i32 len)) (go_keep)
            (first
              | (go_at_call 35; refine (E.out _).mono ?_; rintro e wN ⟨rfl, hbE⟩; have LQ := Lib.hid (LQ.out.fr hbE); have XQ := Lib.hid (XQ.out.fr (Fr.of hbE) (Nat.le_refl _)); have FQ := Lib.hid (FQ.out.trans (Fr.of hbE)); have HQ := Lib.hid ((hbE.block Hb (Array.getElem?_eq_some_iff.1 HQ.out).1).trans HQ.out); obtain ⟨wX, rfl⟩ : ∃ y, y = wN := ⟨_, rfl⟩; obtain ⟨i1, i2, i3, i4, i5, i6⟩ := XQ.out.c16 LQ.out; obtain ⟨i7, i8⟩ := LQ.out.c3637 HKA.out; have i9 : wX.cell? ⟨Hb, 0, none⟩ = some (.int .i32 (a : Int)) := (by rw [Lib.cell_of_heap HQ.out]; rfl); have i10 : wX.cell? ⟨Hb, 1, none⟩ = some (.int .i32 len) := (by rw [Lib.cell_of_heap HQ.out]; rfl); clear hbE)
              | (go_at_call 35; generalize hw4 : World.alloc wX _ = w4; have hbE := (show Below wX.heap.size wX w4 by rw [← hw4]; exact (Below.refl _ _).alloc (Nat.le_refl _) _); have LQ := Lib.hid (LQ.out.fr hbE); have XQ := Lib.hid (XQ.out.fr (Fr.of hbE) (Nat.le_refl _)); have FQ := Lib.hid (FQ.out.trans (Fr.of hbE)); have HQ := Lib.hid ((hbE.block Hb (Array.getElem?_eq_some_iff.1 HQ.out).1).trans HQ.out); clear hw4 hbE; refine (E.out _).mono ?_; rintro e wN ⟨rfl, hbE⟩; have LQ := Lib.hid (LQ.out.fr hbE); have XQ := Lib.hid (XQ.out.fr (Fr.of hbE) (Nat.le_refl _)); have FQ := Lib.hid (FQ.out.trans (Fr.of hbE)); have HQ := Lib.hid ((hbE.block Hb (Array.getElem?_eq_some_iff.1 HQ.out).1).trans HQ.out); obtain ⟨wX, rfl⟩ : ∃ y, y = wN := ⟨_, rfl⟩; obtain ⟨i1, i2, i3, i4, i5, i6⟩ := XQ.out.c16 LQ.out; obtain ⟨i7, i8⟩ := LQ.out.c3637 HKA.out; have i9 : wX.cell? ⟨Hb, 0, none⟩ = some (.int .i32 (a : Int)) := (by rw [Lib.cell_of_heap HQ.out]; rfl); have i10 : wX.cell? ⟨Hb, 1, none⟩ = some (.int .i32 len) := (by rw [Lib.cell_of_heap HQ.out]; rfl); clear hbE)
              | (go_at_call 120; refine (TM.out _ _ _ LQ.out XQ.out).mono ?_; rintro e wX ⟨⟨gg, rfl⟩, P3, q1, q2, q3, q4⟩; have LQ := Lib.hid q1; have XQ := Lib.hid q2; have FQ := Lib.hid (FQ.out.trans q4); have HQ := Lib.hid ((q4.block Hb (Array.getElem?_eq_some_iff.1 HQ.out).1 HBN.out).trans HQ.out); obtain ⟨i1, i2, i3, i4, i5, i6⟩ := XQ.out.c16 LQ.out; obtain ⟨i7, i8⟩ := LQ.out.c3637 HKA.out; have i9 : wX.cell? ⟨Hb, 0, none⟩ = some (.int .i32 (a : Int)) := (by rw [Lib.cell_of_heap HQ.out]; rfl); have i10 : wX.cell? ⟨Hb, 1, none⟩ = some (.int .i32 len) := (by rw [Lib.cell_of_heap HQ.out]; rfl); clear q1 q2 q3 q4)
              | (go_at_call 119; refine (TE.out _ _ _ _ _ _ LQ.out XQ.out).mono ?_; rintro e w5 ⟨rfl, P5, S5, q1, q2, q3, q4, q5⟩; have QQ := Lib.hid (show LxP b G s r' st uo kd fl cs S w w5 from ⟨P5, S5, q1, by rw [KPQ.out]; exact q2, (FQ.out.fx HX.out.own).trans q4 (fun _ hi => .inl hi), fun i hi => (q5 i hi).elim .inl fun h => .inr (Nat.le_trans FQ.out.size h)⟩); have HQ := Lib.hid ((q4.block Hb (Array.getElem?_eq_some_iff.1 HQ.out).1 (fun hh => NB.out Hb hh (by rw [← HSZ.out]; exact Nat.le_refl _))).trans HQ.out); have LQ := Lib.hid q1; have XQ := Lib.hid q2; obtain ⟨i1, i2, i3, i4, i5, i6⟩ := XQ.out.c16 LQ.out; obtain ⟨i7, i8⟩ := LQ.out.c3637 HKA.out; have i9 : w5.cell? ⟨Hb, 0, none⟩ = some (.int .i32 (a : Int)) := (by rw [Lib.cell_of_heap HQ.out]; rfl); have i10 : w5.cell? ⟨Hb, 1, none⟩ = some (.int .i32 len) := (by rw [Lib.cell_of_heap HQ.out]; rfl); clear q1 q2 q3 q4 q5)
              | (go_at_call 119; generalize hw4 : World.alloc wX _ = w4; have hbE := (show Below wX.heap.size wX w4 by rw [← hw4]; exact (Below.refl _ _).alloc (Nat.le_refl _) _); have LQ := Lib.hid (LQ.out.fr hbE); have XQ := Lib.hid (XQ.out.fr (Fr.of hbE) (Nat.le_refl _)); have FQ := Lib.hid (FQ.out.trans (Fr.of hbE)); have HQ := Lib.hid ((hbE.block Hb (Array.getElem?_eq_some_iff.1 HQ.out).1).trans HQ.out); clear hw4 hbE; refine (TE.out _ _ _ _ _ _ LQ.out XQ.out).mono ?_; rintro e w5 ⟨rfl, P5, S5, q1, q2, q3, q4, q5⟩; have QQ := Lib.hid (show LxP b G s r' st uo kd fl cs S w w5 from ⟨P5, S5, q1, by rw [KPQ.out]; exact q2, (FQ.out.fx HX.out.own).trans q4 (fun _ hi => .inl hi), fun i hi => (q5 i hi).elim .inl fun h => .inr (Nat.le_trans FQ.out.size h)⟩); have HQ := Lib.hid ((q4.block Hb (Array.getElem?_eq_some_iff.1 HQ.out).1 (fun hh => NB.out Hb hh (by rw [← HSZ.out]; exact Nat.le_refl _))).trans HQ.out); have LQ := Lib.hid q1; have XQ := Lib.hid q2; obtain ⟨i1, i2, i3, i4, i5, i6⟩ := XQ.out.c16 LQ.out; obtain ⟨i7, i8⟩ := LQ.out.c3637 HKA.out; have i9 : w5.cell? ⟨Hb, 0, none⟩ = some (.int .i32 (a : Int)) := (by rw [Lib.cell_of_heap HQ.out]; rfl); have i10 : w5.cell? ⟨Hb, 1, none⟩ = some (.int .i32 len) := (by rw [Lib.cell_of_heap HQ.out]; rfl); clear q1 q2 q3 q4 q5))
          all_goals
            have CC := Lib.hid (show CmtP b G s st uo kd fl cs S a x w w5 by
              refine ⟨fun R hR => ?_, fun hn => ?_⟩
              · rw [XN.out] at hR
                cases hR
              · rw [← HN.out]
                exact QQ.out)
            go_wp2_with fail
            refine bodyPost_ret (results_none rfl _ _ _) rfl ?_
            exact ⟨rfl, CC.out⟩
        · have e1 := cmtB_over g1 g2
          have X := Lib.hid (show cmtB (tlB r') = x by rw [← e1]; exact HX1.out)
          have LT := Lib.hid (show (tlB r').length < r'.length from tl_lt rfl g2)
          obtain ⟨cq, hcq⟩ : ∃ cq, hdB r' = cq := ⟨_, rfl⟩
          rw [hcq] at c35 g1 g2
          have t1 : (cq == 42) = false := beq_eq_false_iff_ne.2 g1
          have t2 : (cq == -1) = false := beq_eq_false_iff_ne.2 g2
          clear g1 g2 e1 hcq c33 c36 c37
          go_wp2_with fail
          refine (S2.out).mono ?_
          rintro e w2 ⟨rfl, h2, f2⟩
          have H2 := Lib.hid h2
          have F2 := Lib.hid (FC.out.trans f2)
          clear h2 f2 c35
          go_wp2_with fail
          go_roundw
          case rel => exact ⟨_, H2.out, F2.out, X.out, by have := LT.out; have := HLEN.out; omega⟩
          case measure => rw [H2.out.left, M.out]; exact LT.out
end Go.Proofs.YtmgkccnfhkcncaaGreatDoor
