/-
  Is a name url; is a text trimmed; does it begin with a byte order mark. The reference's lexer: is it url; is it trimmed; a name and what belongs to it. Plain Lean: where a name ends that has no escape. The reference's lexer: a name and what belongs to it.
-/
import Derived.Test.YtmgkccnfhkcncaaGreatDoorMG
import Derived.Test.YtmgkccnfhkcncaaGreatDoorUnt
import Derived.Test.YtmgkccnfhkcncaaGreatDoorChr
import Derived.Test.YtmgkccnfhkcncaaGreatDoorSpecUrl
import Derived.Test.YtmgkccnfhkcncaaGreatDoorSpB
import Derived.Deep.DeepCutAuto
import Derived.Deep.CutBlock
namespace Go.Proofs.YtmgkccnfhkcncaaGreatDoor
open Go.RowKit

set_option maxHeartbeats 2000000 in
set_option maxRecDepth 100000 in
theorem isUrlL (s : ByteArray) (w : World) (hs : s.size ≤ 9223372036854775807) : Calls Tryz.prog 46 #[.string s] w fun e w' => e = .returned (.bool (isUrlB s.data.toList)) ∧ w = w' := by
  by_cases h : s.size = 3
  · have h0 : 0 < s.size := by omega
    have h1 : 1 < s.size := by omega
    have h2 : 2 < s.size := by omega
    have HF := Lib.hid (show isUrlB s.data.toList = ((((s[0].toNat : Int) == 117) || ((s[0].toNat : Int) == 85)) && (((s[1].toNat : Int) == 114) || ((s[1].toNat : Int) == 82)) && (((s[2].toNat : Int) == 108) || ((s[2].toNat : Int) == 76))) by
      obtain ⟨d⟩ := s
      obtain ⟨l⟩ := d
      obtain ⟨a, b, c, hl⟩ := three (l := l) h
      subst hl
      rfl)
    have t3 : ((s.size : Int) == 3) = true := beq_iff_eq.2 (by omega)
    clear h
    go_enter Tryz.func46, Tryz.ntmps46
    go_wp2_with fail
    all_goals
      go_ret
      exact ⟨ret_bool (by rw [HF.out]; simp [*]), rfl⟩
  · have hx : isUrlB s.data.toList = false := by
      unfold isUrlB
      split
      · rename_i a b c heq
        exact absurd (show s.size = 3 from (congrArg List.length heq)) h
      · rfl
    have t3 : ((s.size : Int) == 3) = false := beq_eq_false_iff_ne.2 (by omega)
    rw [hx]
    clear hx h
    go_enter Tryz.func46, Tryz.ntmps46
    go_wp2_with fail
    go_ret
    exact ⟨rfl, rfl⟩

/-- Neither begins nor ends with whitespace, by bytes. -/
def trimB (l : List UInt8) : Bool := match l with
  | [] => true
  | b :: t => !spB (b.toNat : Int) && !spB (((b :: t).getLast (by simp)).toNat : Int)
theorem sp_byte {c : Nat} {b : UInt8} (hb : b ∈ enc c) : spB (b.toNat : Int) = isWs c := by
  by_cases h1 : c < 128
  · rw [enc_ascii c h1] at hb
    obtain rfl := List.mem_singleton.1 hb
    rw [toUInt8_toNat (by omega), sp_nat]
  · have h2 := enc_high c (by omega) b hb
    have e1 : isWs c = false := by
      cases hw : isWs c with
      | false => rfl
      | true => have := isWs_ascii hw; omega
    rw [e1]
    unfold spB
    exact decide_eq_false (by omega)
theorem trim_encs (l : List Nat) : trimB (encs l) = trimC l := by
  cases l with
  | nil => rfl
  | cons c t =>
    cases he : encs (c :: t) with
    | nil => exact absurd he (encs_cons_ne c t)
    | cons b u =>
      have hb : b ∈ enc c := by
        rw [encs_cons] at he
        cases hc : enc c with
        | nil => exact absurd hc (enc_ne c)
        | cons x y => rw [hc] at he; simp at he; rw [he.1]; simp
      have hl : (b :: u).getLast (by simp) ∈ enc ((c :: t).getLast (by simp)) := by
        have e1 : c :: t = (c :: t).dropLast ++ [(c :: t).getLast (by simp)] := (List.dropLast_concat_getLast (by simp)).symm
        have e2 : b :: u = encs ((c :: t).dropLast) ++ enc ((c :: t).getLast (by simp)) := by
          rw [← he]; conv => lhs; rw [e1]
          rw [encs_append, encs_one]
        have e3 : (b :: u).getLast? = some ((b :: u).getLast (by simp)) := List.getLast?_eq_some_getLast (by simp)
        have e3 : (encs ((c :: t).dropLast) ++ enc ((c :: t).getLast (by simp))).getLast? = some ((b :: u).getLast (by simp)) := by rw [← e2]; exact e3
        rw [List.getLast?_append] at e3
        cases hx : (enc ((c :: t).getLast (by simp))).getLast? with
        | none => rw [List.getLast?_eq_none_iff] at hx; exact absurd hx (enc_ne _)
        | some y =>
          rw [hx] at e3
          have e4 : y = (b :: u).getLast (by simp) := by simpa using e3
          rw [← e4]
          exact List.mem_of_getLast? hx
      show (!spB (b.toNat : Int) && !spB (((b :: u).getLast (by simp)).toNat : Int)) = (!isWs c && !isWs ((c :: t).getLast (by simp)))
      rw [sp_byte hb, sp_byte hl]

theorem toList_nil (s : ByteArray) : s.toList = [] ↔ s.size = 0 := by
  rw [Lib.toList_data]
  exact (List.length_eq_zero_iff (l := s.data.toList)).symm
set_option maxHeartbeats 2000000 in
set_option maxRecDepth 100000 in
theorem trimL (s : ByteArray) (w : World) (hs : s.size ≤ 9223372036854775807) : Calls Tryz.prog 26 #[.string s] w fun e w' => e = .returned (.bool (trimB s.data.toList)) ∧ w = w' := by
  by_cases h : s.size = 0
  · obtain rfl : s = ⟨#[]⟩ := by
      obtain ⟨d⟩ := s
      obtain ⟨l⟩ := d
      have hl : l = [] := List.eq_nil_of_length_eq_zero h
      rw [hl]
    go_enter Tryz.func26, Tryz.ntmps26
    go_wp2_with fail
    go_ret
    exact ⟨rfl, rfl⟩
  · have h0 : 0 < s.size := by omega
    have h1 : s.size - 1 < s.size := by omega
    have C0 := Lib.hid (fun w => specSpace ((s[0].toNat : Nat) : Int) w)
    have C1 := Lib.hid (fun w => specSpace ((s[s.size - 1].toNat : Nat) : Int) w)
    have HF := Lib.hid (show trimB s.data.toList = (!spB ((s[0].toNat : Nat) : Int) && !spB ((s[s.size - 1].toNat : Nat) : Int)) by
      obtain ⟨d⟩ := s
      obtain ⟨l⟩ := d
      cases l with
      | nil => exact absurd rfl h
      | cons b t =>
        show (!spB (b.toNat : Int) && !spB (((b :: t).getLast (by simp)).toNat : Int)) = _
        rw [List.getLast_eq_getElem]
        rfl)
    obtain ⟨x, hx⟩ : ∃ x, spB ((s[0].toNat : Nat) : Int) = x := ⟨_, rfl⟩
    obtain ⟨y, hy⟩ : ∃ x, spB ((s[s.size - 1].toNat : Nat) : Int) = x := ⟨_, rfl⟩
    rw [hx] at C0 HF
    rw [hy] at C1 HF
    have b0 := UInt8.toNat_lt s[0]
    have b1 := UInt8.toNat_lt s[s.size - 1]
    have hne : s.toList.isEmpty = false := by
      cases hh : s.toList.isEmpty with
      | false => rfl
      | true =>
        rw [List.isEmpty_iff] at hh
        exact absurd ((toList_nil s).1 hh) h
    have hne2 : ¬ s.toList = [] := fun hh => h ((toList_nil s).1 hh)
    clear hx hy h
    cases x with
    | true =>
      go_enter Tryz.func26, Tryz.ntmps26
      go_wp2_with fail
      refine (C0.out _).mono ?_
      rintro e w' ⟨rfl, hww⟩
      first | (obtain rfl : _ = w' := hww) | (obtain rfl : _ = w' := hww.symm)
      go_wp2_with fail
      go_ret
      exact ⟨ret_bool (by rw [HF.out]; rfl), rfl⟩
    | false =>
      go_enter Tryz.func26, Tryz.ntmps26
      go_wp2_with fail
      refine (C0.out _).mono ?_
      rintro e w' ⟨rfl, hww⟩
      first | (obtain rfl : _ = w' := hww) | (obtain rfl : _ = w' := hww.symm)
      go_wp2_with fail
      refine (C1.out _).mono ?_
      rintro e w' ⟨rfl, hww⟩
      first | (obtain rfl : _ = w' := hww) | (obtain rfl : _ = w' := hww.symm)
      go_wp2_with fail
      go_ret
      exact ⟨ret_bool (by rw [HF.out]; rfl), rfl⟩
end Go.Proofs.YtmgkccnfhkcncaaGreatDoor

namespace Go.Proofs.YtmgkccnfhkcncaaGreatDoor
end Go.Proofs.YtmgkccnfhkcncaaGreatDoor

namespace Go.Proofs.YtmgkccnfhkcncaaGreatDoor
open Go

theorem nameS_split : ∀ (n : Nat) (l : List Nat), l.length ≤ n → ∃ p, l = p ++ (nameS l).2.1 ∧ ((∀ d ∈ p, d ≠ 92) → ∀ d ∈ p, conts d = true)
  | _, [], _ => ⟨[], rfl, fun _ d hd => by simp at hd⟩
  | 0, _ :: _, h => absurd h (by simp)
  | n + 1, c :: t, h => by
    simp only [List.length_cons] at h
    by_cases h1 : conts c = true
    · rw [nameS_conts c t h1]
      obtain ⟨p, hp, hq⟩ := nameS_split n t (by omega)
      refine ⟨c :: p, ?_, fun hn d hd => ?_⟩
      · show c :: t = c :: (p ++ (nameS t).2.1); rw [← hp]
      · rcases List.mem_cons.1 hd with rfl | hd
        · exact h1
        · exact hq (fun x hx => hn x (by simp [hx])) d hd
    · by_cases h2 : c = 92 ∧ escOk t = true
      · obtain ⟨rfl, h2⟩ := h2
        rw [nameS_esc t h2]
        obtain ⟨p, hp, _⟩ := nameS_split n (escS t).2.1 (by have := escS_len t; omega)
        obtain ⟨q, hq⟩ := escS_suf t
        refine ⟨92 :: (q ++ p), ?_, fun hn => absurd rfl (hn 92 (by simp))⟩
        show 92 :: t = 92 :: (q ++ p ++ (nameS (escS t).2.1).2.1)
        rw [List.append_assoc, ← hp, hq]
      · rw [nameS_stop c t h1 h2]
        exact ⟨[], rfl, fun _ d hd => by simp at hd⟩
theorem nameS_rest : ∀ (n : Nat) (l : List Nat), l.length ≤ n → ∀ c u, (nameS l).2.1 = c :: u → conts c = false ∧ ¬ (c = 92 ∧ escOk u = true)
  | _, [], _, c, u, h => by rw [nameS_nil] at h; simp at h
  | 0, _ :: _, h, _, _, _ => absurd h (by simp)
  | n + 1, d :: t, hl, c, u, h => by
    simp only [List.length_cons] at hl
    by_cases h1 : conts d = true
    · rw [nameS_conts d t h1] at h
      exact nameS_rest n t (by omega) c u h
    · by_cases h2 : d = 92 ∧ escOk t = true
      · obtain ⟨rfl, h2⟩ := h2
        rw [nameS_esc t h2] at h
        exact nameS_rest n (escS t).2.1 (by have := escS_len t; omega) c u h
      · rw [nameS_stop d t h1 h2] at h
        obtain ⟨rfl, rfl⟩ := List.cons.inj h
        exact ⟨by simpa using h1, h2⟩
end Go.Proofs.YtmgkccnfhkcncaaGreatDoor

namespace Go.Proofs.YtmgkccnfhkcncaaGreatDoor
open Go.RowKit

theorem SR.c1 {b : Nat} {s : ByteArray} {l : List Nat} {cv : Value} {o : Bool} {w : World} (h : SR b s l cv o w) : ∃ k, At s k l ∧ w.cell? ⟨b, 1, none⟩ = some (.int .i64 ((k : Nat) : Int)) := by
  obtain ⟨k, hA, hL⟩ := h
  exact ⟨k, hA, hL.c1⟩
theorem SR.setAt {b : Nat} {s : ByteArray} {l l' : List Nat} {cv : Value} {o : Bool} {w : World} (h : SR b s l cv o w) {k : Nat} (hA : At s k l') : SR b s l' cv o (w.setCell ⟨b, 1, none⟩ (.int .i64 (k : Int))) := by
  obtain ⟨_, _, hL⟩ := h
  exact ⟨k, hA, hL.setAt k⟩
theorem nameS_suf (l : List Nat) : (nameS l).2.1 <:+ l := by
  obtain ⟨p, hp, _⟩ := nameS_split l.length l (Nat.le_refl _)
  exact ⟨p, hp.symm⟩
theorem nameS_len : ∀ (n : Nat) (l : List Nat), l.length ≤ n → (nameS l).1.length ≤ l.length
  | _, [], _ => Nat.le_refl _
  | 0, _ :: _, h => absurd h (by simp)
  | n + 1, c :: t, h => by
    simp only [List.length_cons] at h
    by_cases h1 : conts c = true
    · rw [nameS_conts c t h1]
      have := nameS_len n t (by omega)
      simp only [List.length_cons]; omega
    · by_cases h2 : c = 92 ∧ escOk t = true
      · obtain ⟨rfl, h2⟩ := h2
        rw [nameS_esc t h2]
        have h3 := escS_len t
        have := nameS_len n (escS t).2.1 (by omega)
        simp only [List.length_cons]; omega
      · rw [nameS_stop c t h1 h2]; simp
theorem urlS_len : ∀ (n : Nat) (l : List Nat), l.length ≤ n → (urlS l).2.1.length ≤ l.length
  | _, [], _ => Nat.le_refl _
  | 0, _ :: _, h => absurd h (by simp)
  | n + 1, c :: t, h => by
    simp only [List.length_cons] at h
    by_cases h1 : c = 41
    · subst h1; rw [urlS_end]; simp
    · cases h2 : isWs c with
      | true =>
        cases hs : spS t with
        | nil => rw [urlS_ws_nil c t h2 hs]; simp
        | cons d u =>
          by_cases hd : d = 41
          · subst hd; rw [urlS_ws_end c t u h2 hs]; simp
          · rw [urlS_ws_bad c t d u h2 hs hd]; simp
      | false =>
        cases hs : spoils c t with
        | true => rw [urlS_spoils c t h1 h2 hs]; simp
        | false =>
          by_cases h3 : c = 92
          · subst h3
            have het : escOk t = true := by
              cases he : escOk t with
              | true => rfl
              | false => exact absurd (spoils_iff.2 (Or.inr (Or.inr (Or.inr (Or.inr ⟨rfl, he⟩))))) (by rw [hs]; decide)
            rw [urlS_esc t het]
            have h4 := escS_len t
            have := urlS_len n (escS t).2.1 (by omega)
            simp only [List.length_cons]; omega
          · rw [urlS_plain c t h1 h2 hs h3]
            have := urlS_len n t (by omega)
            simp only [List.length_cons]; omega
theorem urlTk_len (l : List Nat) : (urlTk l).text.length ≤ l.length := by
  unfold urlTk
  dsimp only
  split
  · exact urlS_len l.length l (Nat.le_refl _)
  · simp
theorem ZB.alloc' {R : Nat} {w : World} (h : ZB R w) (x : Obj) (b : Nat) (hb : R ≠ b) : ZB R (w.alloc x) := h.fr (Fr.of (b := b) ((Below.refl _ _).alloc (Nat.le_refl _) _)) hb
theorem tok_endA {fn : Func} {post : Ending → World → Prop} {a : Act} {w : World} {R : Nat} {v0 v1 v2 v3 v4 v5 : Value} {x : Obj} (hr : fn.results = #[.cell 2 47]) (hp : a.tmps.getD 2 undef = .pointer (some ⟨R, 0, none⟩)) (hd : a.defers = []) (h : ZB R w)
    (hpost : post (.returned (.agg #[v0, v1, v2, v3, v4, v5])) ((put6 w R v0 v1 v2 v3 v4 v5).alloc x)) : bodyPost Tryz.prog fn post .ret a ((put6 w R v0 v1 v2 v3 v4 v5).alloc x) :=
  bodyPost_ret (results_cell_row (P := Tryz.prog) hr a.tmps _ R _ _ _ _ hp ((Below.heap_alloc _ x R (by have := h.lt; simpa [put6, World.setCell] using this)).trans (put6_heap h v0 v1 v2 v3 v4 v5)) Tryz.underlying47 rfl infoTok) hd hpost
theorem namedS_nil {l : List Nat} (h : (nameS l).2.1 = []) : namedS l = (⟨29, 0, false, (nameS l).1⟩, [], (nameS l).2.2) := by unfold namedS; rw [h]
theorem namedS_ident {l : List Nat} {c : Nat} {t : List Nat} (h : (nameS l).2.1 = c :: t) (hc : c ≠ 40) : namedS l = (⟨29, 0, false, (nameS l).1⟩, c :: t, (nameS l).2.2) := by unfold namedS; rw [h]; dsimp only; rw [if_pos hc]
theorem namedS_fun {l : List Nat} {t : List Nat} (h : (nameS l).2.1 = 40 :: t) (hu : ¬ (isUrlC (nameS l).1 = true ∧ cpAt (spS t) 0 ≠ 34 ∧ cpAt (spS t) 0 ≠ 39)) : namedS l = (⟨27, 0, false, (nameS l).1⟩, t, (nameS l).2.2) := by
  unfold namedS; rw [h]; dsimp only; rw [if_neg (by simp), if_neg hu]
theorem namedS_url {l : List Nat} {t : List Nat} (h : (nameS l).2.1 = 40 :: t) (hu : isUrlC (nameS l).1 = true ∧ cpAt (spS t) 0 ≠ 34 ∧ cpAt (spS t) 0 ≠ 39) (sh : Bool) (hs : decide (blen l - blen (40 :: t) = 3) = sh) :
    namedS l = (urlTk (spS t), (urlS (spS t)).2.2.1, (nameS l).2.2 || ((urlS (spS t)).2.2.2 || !sh || !trimC (urlTk (spS t)).text)) := by
  unfold namedS; rw [h]; dsimp only; rw [if_neg (by simp), if_pos hu, hs]; rfl

set_option maxHeartbeats 8000000 in
set_option maxRecDepth 100000 in
theorem namedL (b : Nat) (s : ByteArray) (l : List Nat) (cv : Value) (o : Bool) (w : World) (h : SR b s l cv o w) :
    Calls Tryz.prog 57 #[.pointer (some ⟨b, 0, none⟩)] w fun e w' => e = .returned (tkV (namedS l).1 0 0) ∧ SR b s (namedS l).2.1 cv (o || (namedS l).2.2) w' ∧ Fr b w w' := by
  have hlt := h.lt
  have hll := h.len
  have hcp := Lib.hid h.cp
  obtain ⟨RES, hRES⟩ : ∃ R, namedS l = R := ⟨_, rfl⟩
  rw [hRES]
  have HRES := Lib.hid hRES
  clear hRES
  have P := Lib.hid (fun l o w h => peek0 b s l cv o w h)
  have K := Lib.hid (fun c t o w h => take_cons b s c t cv o w h)
  have KL := Lib.hid (fun l o w h => takeL b s l cv o w h)
  have NM := Lib.hid (nameL b s l cv o)
  have UL := Lib.hid (fun l o w h => urlL b s l cv o w h)
  have hR : w.heap.size ≠ b := by omega
  have H1 := h.alloc (.cells #[.int .i64 0, .int .i64 0, .int .i64 0, .int .i64 0, .bool false, .string ⟨#[]⟩] 47)
  have Z0 := Lib.hid (ZB.new w)
  clear h
  have H1' := Lib.hid H1
  obtain ⟨k0, hA0, d0⟩ := H1.c1
  have A0 := Lib.hid hA0
  have hkz : k0 ≤ 4294967296 := Nat.le_trans hA0.le hA0.hz
  clear hA0 H1
  obtain ⟨nm, hnm⟩ : ∃ x, (nameS l).1 = x := ⟨_, rfl⟩
  obtain ⟨r1, hr1⟩ : ∃ x, (nameS l).2.1 = x := ⟨_, rfl⟩
  obtain ⟨o1, ho1⟩ : ∃ x, (o || (nameS l).2.2) = x := ⟨_, rfl⟩
  rw [hnm, hr1, ho1] at NM
  have hncp := Lib.hid (nameS_cp l.length l (Nat.le_refl _) hcp.out).1
  have HNL := Lib.hid (show nm.length ≤ l.length by rw [← hnm]; exact nameS_len l.length l (Nat.le_refl _))
  have hnl := HNL.out
  have hsz := strOf_size nm
  have hss : (strOf nm).size ≤ 17179869184 := by omega
  have hle : (encs r1).length ≤ (encs l).length := by rw [← hr1]; exact suf_enc (nameS_suf l)
  have HN := Lib.hid hnm
  have HR1 := Lib.hid hr1
  have HO1 := Lib.hid ho1
  rw [hnm] at hncp
  clear hnm hr1 ho1 hsz hnl
  go_enter Tryz.func57, Tryz.ntmps57
  go_wp2_with fail
  refine (NM.out _ H1'.out).mono ?_
  rintro e w2 ⟨rfl, h2, f2⟩
  have ZR := Lib.hid (Z0.out.fr f2 hR)
  have F2 := Lib.hid f2.made
  obtain ⟨k1, hA1, d1⟩ := h2.c1
  have H2 := Lib.hid h2
  have s0 := A0.out.size
  have s1 := hA1.size
  have hk1 : k0 ≤ k1 := by omega
  have hk1z : k1 ≤ 4294967296 := Nat.le_trans hA1.le hA1.hz
  have HSH := Lib.hid (show (((k1 : Int) - (k0 : Int)) == 3) = decide (blen l - blen r1 = 3) by
    rw [Bool.eq_iff_iff, beq_iff_eq, decide_eq_true_iff]; unfold blen; omega)
  obtain ⟨sh, hsh⟩ : ∃ sh, (((k1 : Int) - (k0 : Int)) == 3) = sh := ⟨_, rfl⟩
  clear hA1 s0 s1 hle d0 f2 h2
  cases r1 with
  | nil =>
    have Q := Lib.hid (P.out [] o1 _ H2.out)
    rw [cpAt_nil] at Q
    have HX := Lib.hid (show RES = (⟨29, 0, false, nm⟩, [], (nameS l).2.2) by rw [← HRES.out, namedS_nil HR1.out, HN.out])
    clear hsh
    go_wp2_with fail
    refine (Q.out).mono ?_
    rintro e w' ⟨rfl, hww⟩
    first | (obtain rfl : _ = w' := hww) | (obtain rfl : _ = w' := hww.symm)
    have zb := ZR.out
    obtain ⟨c0, c1, c2, c3, c4, c5⟩ := zb.c
    obtain ⟨z0, z1, z2, z3, z4, z5⟩ := zb.z
    have ZZ := Lib.hid zb
    clear zb
    go_wp2_with fail
    refine tok_end (R := w.heap.size) rfl rfl rfl ZZ.out ?_
    rw [HX.out]
    dsimp only
    rw [HO1.out]
    exact ⟨tk_ret rfl rfl rfl rfl rfl rfl, H2.out.put6 (Ne.symm hR) _ _ _ _ _ _, F2.out.put6 (Nat.le_refl _) _ _ _ _ _ _⟩
  | cons c t =>
    have Q := Lib.hid (P.out (c :: t) o1 _ H2.out)
    rw [cpAt_zero_cons] at Q
    by_cases hc : c = 40
    · subst hc
      have hul := isUrlL (strOf nm)
      rw [strOf_list, isUrl_encs nm hncp.out] at hul
      have IU := Lib.hid (fun w => hul w (by omega))
      clear hul
      cases hu : isUrlC nm with
      | false =>
        rw [hu] at IU
        have HX := Lib.hid (show RES = (⟨27, 0, false, nm⟩, t, (nameS l).2.2) by rw [← HRES.out, namedS_fun HR1.out (by rw [HN.out, hu]; simp), HN.out])
        clear hsh hu
        go_wp2_with fail
        refine (Q.out).mono ?_
        rintro e w' ⟨rfl, hww⟩
        first | (obtain rfl : _ = w' := hww) | (obtain rfl : _ = w' := hww.symm)
        go_wp2_with fail
        refine (K.out 40 t o1 _ H2.out).mono ?_
        rintro e w3 ⟨rfl, h3, f3⟩
        go_wp2_with fail
        refine (IU.out _).mono ?_
        rintro e w' ⟨rfl, hww⟩
        first | (obtain rfl : _ = w' := hww) | (obtain rfl : _ = w' := hww.symm)
        have zb := ZR.out.fr f3 hR
        obtain ⟨c0, c1, c2, c3, c4, c5⟩ := zb.c
        obtain ⟨z0, z1, z2, z3, z4, z5⟩ := zb.z
        have ZZ := Lib.hid zb
        clear zb
        go_wp2_with fail
        refine tok_end (R := w.heap.size) rfl rfl rfl ZZ.out ?_
        rw [HX.out]
        dsimp only
        rw [HO1.out]
        exact ⟨tk_ret rfl rfl rfl rfl rfl rfl, h3.put6 (Ne.symm hR) _ _ _ _ _ _, (F2.out.trans f3).put6 (Nat.le_refl _) _ _ _ _ _ _⟩
      | true =>
        rw [hu] at IU
        have HU := Lib.hid hu
        clear hu
        go_wp2_with fail
        refine (Q.out).mono ?_
        rintro e w' ⟨rfl, hww⟩
        first | (obtain rfl : _ = w' := hww) | (obtain rfl : _ = w' := hww.symm)
        go_wp2_with fail
        refine (K.out 40 t o1 _ H2.out).mono ?_
        rintro e w3 ⟨rfl, h3, f3⟩
        go_wp2_with fail
        refine (IU.out _).mono ?_
        rintro e w' ⟨rfl, hww⟩
        first | (obtain rfl : _ = w' := hww) | (obtain rfl : _ = w' := hww.symm)
        obtain ⟨k2, hA2, d2⟩ := h3.c1
        have A2 := Lib.hid hA2
        have H3 := Lib.hid h3
        have F3 := Lib.hid (F2.out.trans f3)
        have Z3 := Lib.hid (ZR.out.fr f3 hR)
        have START := Lib.hid (show FRel spS b s t cv o1 w3 w3 from ⟨t, h3, Fr.refl b w3, rfl⟩)
        clear hA2 f3 h3
        go_upto_block 0 with fail
        go_cut [6] (fun v wx => v = .int .i64 (k2 : Int) ∧ SR b s (spS t) cv o1 wx ∧ Fr b w3 wx)
        case first =>
          clear hsh Q
          go_wp2_with fail
          go_loopw [] (fun wr => FRel spS b s t cv o1 w3 wr) (fun wr => leftOf b s wr)
          case atStart => exact START.out
          case round =>
            obtain ⟨r, hr, hf, hF⟩ := hrel
            clear START
            cases r with
            | nil =>
              have S := Lib.hid (fun w => specSpace (-1) w)
              have Q3 := Lib.hid (P.out [] o1 _ hr)
              rw [cpAt_nil] at Q3
              have HF := Lib.hid hF
              clear hF
              go_wp2_with fail
              refine (Q3.out).mono ?_
              rintro e w' ⟨rfl, hww⟩
              first | (obtain rfl : _ = w' := hww) | (obtain rfl : _ = w' := hww.symm)
              go_wp2_with fail
              refine (S.out _).mono ?_
              rintro e w' ⟨rfl, hww⟩
              first | (obtain rfl : _ = w' := hww) | (obtain rfl : _ = w' := hww.symm)
              go_wp2_with fail
              go_meet
              exact ⟨rfl, by rw [← HF.out]; exact hr, hf⟩
            | cons c u =>
              have S := Lib.hid (fun w => specSpace (c : Int) w)
              rw [sp_nat] at S
              have Q3 := Lib.hid (P.out (c :: u) o1 _ hr)
              rw [cpAt_zero_cons] at Q3
              rw [spS_cons] at hF
              cases hc : isWs c with
              | true =>
                rw [hc] at S hF
                rw [if_pos rfl] at hF
                have HF := Lib.hid hF
                clear hF hc
                go_wp2_with fail
                refine (Q3.out).mono ?_
                rintro e w' ⟨rfl, hww⟩
                first | (obtain rfl : _ = w' := hww) | (obtain rfl : _ = w' := hww.symm)
                go_wp2_with fail
                refine (S.out _).mono ?_
                rintro e w' ⟨rfl, hww⟩
                first | (obtain rfl : _ = w' := hww) | (obtain rfl : _ = w' := hww.symm)
                go_wp2_with fail
                refine (K.out c u o1 _ hr).mono ?_
                rintro e w4 ⟨rfl, h4, f4⟩
                go_wp2_with fail
                go_roundw
                case rel => exact ⟨u, h4, hf.trans f4, HF.out⟩
                case measure => rw [h4.left, hr.left]; exact encs_lt c u
              | false =>
                rw [hc] at S hF
                rw [if_neg (by decide)] at hF
                have HF := Lib.hid hF
                clear hF hc
                go_wp2_with fail
                refine (Q3.out).mono ?_
                rintro e w' ⟨rfl, hww⟩
                first | (obtain rfl : _ = w' := hww) | (obtain rfl : _ = w' := hww.symm)
                go_wp2_with fail
                refine (S.out _).mono ?_
                rintro e w' ⟨rfl, hww⟩
                first | (obtain rfl : _ = w' := hww) | (obtain rfl : _ = w' := hww.symm)
                go_wp2_with fail
                go_meet
                exact ⟨rfl, by rw [← HF.out]; exact hr, hf⟩
        case rest =>
          obtain ⟨rfl, h4, f4⟩ := hcut
          obtain ⟨w4, rfl⟩ : ∃ w1 : World, w1 = wc := ⟨_, rfl⟩
          clear START Q
          obtain ⟨l4, hl4⟩ : ∃ x, spS t = x := ⟨_, rfl⟩
          rw [hl4] at h4
          have L4 := Lib.hid hl4
          have H4 := Lib.hid h4
          have F4 := Lib.hid (F3.out.trans f4)
          have Z4 := Lib.hid (Z3.out.fr f4 hR)
          have z1 := h4.fz 1
          obtain ⟨k4, _, d4⟩ := h4.c1
          have Q := Lib.hid (P.out l4 o1 _ h4)
          obtain ⟨z, hz⟩ : ∃ z, cpAt l4 0 = z := ⟨_, rfl⟩
          rw [hz] at Q
          have HZ := Lib.hid hz
          clear hl4 h4 f4 hz d2
          by_cases hq : z = 34 ∨ z = 39
          · have HX := Lib.hid (show RES = (⟨27, 0, false, nm⟩, t, (nameS l).2.2) by
              rw [← HRES.out, namedS_fun HR1.out (by rw [L4.out, HZ.out]; omega), HN.out])
            have ZZ4 := Lib.hid (Z4.out.open' hR 1 (.int .i64 (k2 : Int)))
            clear hsh
            rcases hq with rfl | rfl
            all_goals
              go_wp2_with fail
              refine (Q.out).mono ?_
              rintro e w' ⟨rfl, hww⟩
              first | (obtain rfl : _ = w' := hww) | (obtain rfl : _ = w' := hww.symm)
              have zb := ZZ4.out
              obtain ⟨c0, c1, c2, c3, c4, c5⟩ := zb.c
              obtain ⟨z0, z1, z2, z3, z4, z5⟩ := zb.z
              have ZZ := Lib.hid zb
              clear zb
              go_wp2_with fail
              refine tok_end (R := w.heap.size) rfl rfl rfl ZZ.out ?_
              rw [HX.out]
              dsimp only
              rw [HO1.out]
              exact ⟨tk_ret rfl rfl rfl rfl rfl rfl, (H4.out.setAt A2.out).put6 (Ne.symm hR) _ _ _ _ _ _, (F4.out.trans (Fr.setCell _ _ _)).put6 (Nat.le_refl _) _ _ _ _ _ _⟩
          · have t34 : (z != 34) = true := by rw [bne_iff_ne]; omega
            have t39 : (z != 39) = true := by rw [bne_iff_ne]; omega
            have t34' : (z == 34) = false := beq_eq_false_iff_ne.2 (by omega)
            have t39' : (z == 39) = false := beq_eq_false_iff_ne.2 (by omega)
            have HQ := Lib.hid hq
            clear hq z1 d4
            go_wp2_with fail
            refine (Q.out).mono ?_
            rintro e w' ⟨rfl, hww⟩
            first | (obtain rfl : _ = w' := hww) | (obtain rfl : _ = w' := hww.symm)
            have U := Lib.hid (UL.out l4 o1 _ H4.out)
            obtain ⟨tk, htk⟩ : ∃ x, urlTk l4 = x := ⟨_, rfl⟩
            obtain ⟨r5, hr5⟩ : ∃ x, (urlS l4).2.2.1 = x := ⟨_, rfl⟩
            obtain ⟨o5, ho5⟩ : ∃ x, (o1 || (urlS l4).2.2.2) = x := ⟨_, rfl⟩
            rw [htk, hr5, ho5, tkV_agg] at U
            have H4' := Lib.hid H4.out.len
            have HTL := Lib.hid (show tk.text.length ≤ l4.length by rw [← htk]; exact urlTk_len l4)
            have htl := HTL.out
            have htl2 := H4'.out
            have hsz := strOf_size tk.text
            have hts : (strOf tk.text).size ≤ 17179869184 := by omega
            have htr := trimL (strOf tk.text)
            rw [strOf_list, trim_encs] at htr
            have TR := Lib.hid (fun w => htr w (by omega))
            obtain ⟨tr, htr2⟩ : ∃ x, trimC tk.text = x := ⟨_, rfl⟩
            rw [htr2] at TR
            have HX := Lib.hid (show ∃ op, RES = (tk, r5, op) ∧ (o || op) = (o5 || (!sh || !tr)) from by
              refine ⟨(nameS l).2.2 || ((urlS l4).2.2.2 || !sh || !tr), ?_, ?_⟩
              · rw [← HRES.out, namedS_url HR1.out (by rw [HN.out, L4.out, HZ.out]; exact ⟨HU.out, fun h => HQ.out (Or.inl h), fun h => HQ.out (Or.inr h)⟩) sh (by rw [← HSH.out, hsh]), L4.out, htk, hr5, htr2]
              · rw [← ho5, ← HO1.out]
                simp only [Bool.or_assoc])
            clear htl htl2 hsz htr htr2 htk hr5 ho5
            go_wp2_with fail
            refine (U.out).mono ?_
            rintro e w5 ⟨rfl, h5, f5⟩
            have F5 := Lib.hid (F4.out.trans f5)
            have hb5 := h5.lt
            obtain ⟨d3, y3⟩ := h5.c3'
            have Z5 := Lib.hid (Z4.out.fr f5 hR)
            have H5 := Lib.hid h5
            have hR5 : w.heap.size < w5.heap.size := Z5.out.lt
            clear f5 h5
            clear hsh
            cases o5 with
            | true =>
              have zb := Z5.out
              obtain ⟨c0, c1, c2, c3, c4, c5⟩ := zb.c
              obtain ⟨z0, z1, z2, z3, z4, z5⟩ := zb.z
              have ZZ := Lib.hid zb
              clear zb
              have ZF := Lib.hid (Z5.out.open' hR 3 (.bool true))
              go_upto_region 15 with fail
              iterate 3 go_step
              iterate 10 (first | go_values | go_skip | go_guarded | go_step | go_upon | go_in | go_back | skip)
              refine tok_endA (R := w.heap.size) rfl rfl rfl ZF.out ?_
              obtain ⟨op, hx, ho⟩ := HX.out
              rw [hx]
              dsimp only
              rw [ho]
              exact ⟨tk_ret rfl rfl rfl rfl rfl rfl, ((H5.out.open' true).put6 (Ne.symm hR) _ _ _ _ _ _).alloc _, ((F5.out.trans (Fr.setCell _ _ _)).put6 (Nat.le_refl _) _ _ _ _ _ _).alloc _⟩
            | false =>
              cases sh with
              | false =>
                have zb := Z5.out
                obtain ⟨c0, c1, c2, c3, c4, c5⟩ := zb.c
                obtain ⟨z0, z1, z2, z3, z4, z5⟩ := zb.z
                have ZZ := Lib.hid zb
                clear zb
                have ZF := Lib.hid (Z5.out.open' hR 3 (.bool true))
                go_upto_region 15 with fail
                iterate 3 go_step
                iterate 10 (first | go_values | go_skip | go_guarded | go_step | go_upon | go_in | go_back | skip)
                refine tok_endA (R := w.heap.size) rfl rfl rfl ZF.out ?_
                obtain ⟨op, hx, ho⟩ := HX.out
                rw [hx]
                dsimp only
                rw [ho]
                exact ⟨tk_ret rfl rfl rfl rfl rfl rfl, ((H5.out.open' true).put6 (Ne.symm hR) _ _ _ _ _ _).alloc _, ((F5.out.trans (Fr.setCell _ _ _)).put6 (Nat.le_refl _) _ _ _ _ _ _).alloc _⟩
              | true =>
                cases tr with
                | true =>
                  go_wp2_with fail
                  refine (TR.out _).mono ?_
                  rintro e w' ⟨rfl, hww⟩
                  first | (obtain rfl : _ = w' := hww) | (obtain rfl : _ = w' := hww.symm)
                  have zb := Z5.out
                  obtain ⟨c0, c1, c2, c3, c4, c5⟩ := zb.c
                  obtain ⟨z0, z1, z2, z3, z4, z5⟩ := zb.z
                  have ZZ := Lib.hid zb
                  clear zb
                  have ZF := Lib.hid (Z5.out.open' hR 3 (.bool false))
                  go_upto_region 15 with fail
                  iterate 3 go_step
                  iterate 10 (first | go_values | go_skip | go_guarded | go_step | go_upon | go_in | go_back | skip)
                  refine tok_endA (R := w.heap.size) rfl rfl rfl ZF.out ?_
                  obtain ⟨op, hx, ho⟩ := HX.out
                  rw [hx]
                  dsimp only
                  rw [ho]
                  exact ⟨tk_ret rfl rfl rfl rfl rfl rfl, ((H5.out.open' false).put6 (Ne.symm hR) _ _ _ _ _ _).alloc _, ((F5.out.trans (Fr.setCell _ _ _)).put6 (Nat.le_refl _) _ _ _ _ _ _).alloc _⟩
                | false =>
                  go_wp2_with fail
                  refine (TR.out _).mono ?_
                  rintro e w' ⟨rfl, hww⟩
                  first | (obtain rfl : _ = w' := hww) | (obtain rfl : _ = w' := hww.symm)
                  have zb := Z5.out
                  obtain ⟨c0, c1, c2, c3, c4, c5⟩ := zb.c
                  obtain ⟨z0, z1, z2, z3, z4, z5⟩ := zb.z
                  have ZZ := Lib.hid zb
                  clear zb
                  have ZF := Lib.hid (Z5.out.open' hR 3 (.bool true))
                  go_upto_region 15 with fail
                  iterate 3 go_step
                  iterate 10 (first | go_values | go_skip | go_guarded | go_step | go_upon | go_in | go_back | skip)
                  refine tok_endA (R := w.heap.size) rfl rfl rfl ZF.out ?_
                  obtain ⟨op, hx, ho⟩ := HX.out
                  rw [hx]
                  dsimp only
                  rw [ho]
                  exact ⟨tk_ret rfl rfl rfl rfl rfl rfl, ((H5.out.open' true).put6 (Ne.symm hR) _ _ _ _ _ _).alloc _, ((F5.out.trans (Fr.setCell _ _ _)).put6 (Nat.le_refl _) _ _ _ _ _ _).alloc _⟩
    · have HX := Lib.hid (show RES = (⟨29, 0, false, nm⟩, c :: t, (nameS l).2.2) by rw [← HRES.out, namedS_ident HR1.out hc, HN.out])
      have tc : ((c : Int) != 40) = true := by rw [bne_iff_ne]; omega
      have tc2 : ((c : Int) == 40) = false := beq_eq_false_iff_ne.2 (by omega)
      clear hsh hc
      go_wp2_with fail
      refine (Q.out).mono ?_
      rintro e w' ⟨rfl, hww⟩
      first | (obtain rfl : _ = w' := hww) | (obtain rfl : _ = w' := hww.symm)
      have zb := ZR.out
      obtain ⟨c0, c1, c2, c3, c4, c5⟩ := zb.c
      obtain ⟨z0, z1, z2, z3, z4, z5⟩ := zb.z
      have ZZ := Lib.hid zb
      clear zb
      go_wp2_with fail
      refine tok_end (R := w.heap.size) rfl rfl rfl ZZ.out ?_
      rw [HX.out]
      dsimp only
      rw [HO1.out]
      exact ⟨tk_ret rfl rfl rfl rfl rfl rfl, H2.out.put6 (Ne.symm hR) _ _ _ _ _ _, F2.out.put6 (Nat.le_refl _) _ _ _ _ _ _⟩
end Go.Proofs.YtmgkccnfhkcncaaGreatDoor
