/-
  WouldStartIdentifierWithoutEscapes at plain texts: 'wsC' of the code points.
-/
import Derived.Test.YtmgkccnfhkcncaaGreatDoorPlain
namespace Go.Proofs.YtmgkccnfhkcncaaGreatDoor
open Go.RowKit

theorem decodeRune_cp (s : ByteArray) (w : World) (hT : Lib.Utf8Tabs 0 1 w) (c : Nat) (t : List Nat) (hc : Cp c) (hd : s.data.toList = encs (c :: t)) :
    Calls Tryz.prog 64 #[.string s] w fun e w' => e = .returned (.tuple #[.int .i32 (c : Int), .int .i64 ((enc c).length : Nat)]) ∧ Below w.heap.size w w' := by
  have h := decodeRune s w hT
  rw [hd, decG, if_neg (encs_cons_ne c t), dec_encs c hc] at h
  exact h
theorem decodeRune_nil (s : ByteArray) (w : World) (hT : Lib.Utf8Tabs 0 1 w) (hd : s.data.toList = []) :
    Calls Tryz.prog 64 #[.string s] w fun e w' => e = .returned (.tuple #[.int .i32 65533, .int .i64 0]) ∧ Below w.heap.size w w' := by
  have h := decodeRune s w hT
  rw [hd] at h
  exact h

/-- Would an identifier without escapes begin. -/
def wsC : List Nat → Bool
  | [] => false
  | [c] => decide (c ≠ 45) && starts c
  | c :: d :: _ => if c = 45 then (decide (d = 45) || starts d) else starts c

theorem enc_wide (c : Nat) (h : 2048 ≤ c) : 2 ≤ (enc c).length := by
  unfold enc Lib.encodeRune
  rw [List.length_map]
  by_cases h1 : (2048 ≤ (c : Int) ∧ (c : Int) < 55296) ∨ (57343 < (c : Int) ∧ (c : Int) ≤ 65535)
  · rw [Lib.encodeRuneZ_three h1]; simp
  · by_cases h2 : (c : Int) ≤ 1114111
    · by_cases h3 : 65536 ≤ (c : Int)
      · rw [Lib.encodeRuneZ_four h3 h2]; simp
      · rw [Lib.encodeRuneZ_bad (by omega)]; decide
    · rw [Lib.encodeRuneZ_bad (by omega)]; decide

theorem enc45 : (enc 45).length = 1 := by rw [enc_ascii 45 (by omega)]; rfl
theorem starts45 : starts 45 = false := rfl

set_option maxHeartbeats 800000 in
set_option maxRecDepth 100000 in
theorem implWould0 (s : ByteArray) (w : World) (hz : s.size ≤ 4294967296) (l : List Nat) (hl : ∀ c ∈ l, Cp c) (hd : s.data.toList = encs l) (hT : Lib.Utf8Tabs 0 1 w) :
    Calls Tryz.prog 44 #[.string s] w fun e w' => e = .returned (.bool (wsC l)) ∧ Below w.heap.size w w' := by
  match l, hl, hd with
  | [], _, hd =>
    have C := Lib.hid (decodeRune_nil s w hT hd)
    have T := Lib.hid hT
    clear hd hT
    go_enter Tryz.func44, Tryz.ntmps44
    go_wp2_with (go_at_call 64; refine (C.out).mono ?_; rintro e w' ⟨rfl, hb⟩)
    go_ret
    exact ⟨rfl, hb⟩
  | c :: t, hl, hd =>
    have hc := hl c (by simp)
    have C := Lib.hid (decodeRune_cp s w hT c t hc hd)
    have T := Lib.hid hT
    clear hT
    have hlen := enc_len c
    have hpos : 1 ≤ c := hc.1
    have hsz : (enc c).length ≤ s.size := by
      rw [← toList_size, hd, encs_cons, List.length_append]; omega
    have N := Lib.hid (fun w => isNameStart (c : Int) w)
    rw [ns_nat c hpos] at N
    by_cases h45 : c = 45
    · subst h45
      rw [enc45] at C hsz
      rw [starts45] at N
      have hd1 : (s.extract 1 s.size).data.toList = encs t := by
        rw [Lib.extract_to_end, hd]
        have := drop_encs 45 t
        rw [enc45] at this
        exact this
      cases t with
      | nil =>
        have D := Lib.hid (fun w hT => decodeRune_nil (s.extract 1 s.size) w hT hd1)
        clear hd hd1 hl hc hlen
        go_enter Tryz.func44, Tryz.ntmps44
        go_wp2_with fail
        refine (C.out).mono ?_
        rintro e w1 ⟨rfl, hb⟩
        go_wp2_with (go_at_call 47; refine (N.out _).mono ?_; rintro e w' ⟨rfl, rfl⟩)
        refine (D.out _ (Utf8Tabs_below T.out hb)).mono ?_
        rintro e w2 ⟨rfl, hb2⟩
        go_wp2_with fail
        go_ret
        exact ⟨rfl, hb.trans (hb2.mono hb.size)⟩
      | cons d u =>
        have hdd := hl d (by simp)
        have hlen2 := enc_len d
        have hpos2 : 1 ≤ d := hdd.1
        have D := Lib.hid (fun w hT => decodeRune_cp (s.extract 1 s.size) w hT d u hdd hd1)
        have M := Lib.hid (fun w => isNameStart (d : Int) w)
        rw [ns_nat d hpos2] at M
        have hfin : wsC (45 :: d :: u) = (decide (d = 45) || starts d) := rfl
        rw [hfin]
        clear hd hd1 hl hc hfin hdd hlen
        have hw : d = 65533 → 2 ≤ (enc d).length := fun e => enc_wide d (by omega)
        obtain ⟨n, hn⟩ : ∃ n, (enc d).length = n := ⟨_, rfl⟩
        rw [hn] at D hw hlen2
        obtain ⟨b, hb⟩ : ∃ b, starts d = b := ⟨_, rfl⟩
        have hds : d = 45 → b = false := by rintro rfl; rw [← hb]; rfl
        rw [hb] at M ⊢
        clear hn hb
        by_cases hr : d = 65533
        · subst hr
          have hw2 := hw rfl
          clear hw hds
          rw [decide_eq_false (by decide)]
          cases b
          all_goals
            go_enter Tryz.func44, Tryz.ntmps44
            go_wp2_with fail
            refine (C.out).mono ?_
            rintro e w1 ⟨rfl, hb⟩
            go_wp2_with (go_at_call 47; refine (N.out _).mono ?_; rintro e w' ⟨rfl, rfl⟩)
            refine (D.out _ (Utf8Tabs_below T.out hb)).mono ?_
            rintro e w2 ⟨rfl, hb2⟩
            go_wp2_with fail
            refine (M.out _).mono ?_
            rintro e w' ⟨rfl, rfl⟩
            go_wp2_with fail
            go_ret
            exact ⟨rfl, hb.trans (hb2.mono hb.size)⟩
        · have t1 : ((d : Int) == 65533) = false := beq_eq_false_iff_ne.2 (by omega)
          clear hw hr
          by_cases hd45 : d = 45
          · subst hd45
            have hb0 := hds rfl
            subst hb0
            clear hds
            go_enter Tryz.func44, Tryz.ntmps44
            go_wp2_with fail
            refine (C.out).mono ?_
            rintro e w1 ⟨rfl, hb⟩
            go_wp2_with (go_at_call 47; refine (N.out _).mono ?_; rintro e w' ⟨rfl, rfl⟩)
            refine (D.out _ (Utf8Tabs_below T.out hb)).mono ?_
            rintro e w2 ⟨rfl, hb2⟩
            go_wp2_with fail
            refine (M.out _).mono ?_
            rintro e w' ⟨rfl, rfl⟩
            go_wp2_with fail
            go_ret
            exact ⟨rfl, hb.trans (hb2.mono hb.size)⟩
          · have t2 : ((d : Int) == 45) = false := beq_eq_false_iff_ne.2 (by omega)
            rw [decide_eq_false hd45]
            clear hds hd45
            cases b
            all_goals
              go_enter Tryz.func44, Tryz.ntmps44
              go_wp2_with fail
              refine (C.out).mono ?_
              rintro e w1 ⟨rfl, hb⟩
              go_wp2_with (go_at_call 47; refine (N.out _).mono ?_; rintro e w' ⟨rfl, rfl⟩)
              refine (D.out _ (Utf8Tabs_below T.out hb)).mono ?_
              rintro e w2 ⟨rfl, hb2⟩
              go_wp2_with fail
              refine (M.out _).mono ?_
              rintro e w' ⟨rfl, rfl⟩
              go_wp2_with fail
              go_ret
              exact ⟨rfl, hb.trans (hb2.mono hb.size)⟩
    · have hfin : wsC (c :: t) = starts c := by
        cases t with
        | nil => show (decide (c ≠ 45) && starts c) = _; rw [decide_eq_true h45]; rfl
        | cons d u => show (if c = 45 then _ else _) = _; rw [if_neg h45]
      rw [hfin]
      clear hfin hd hl hc
      have t0 : ((c : Int) == 45) = false := beq_eq_false_iff_ne.2 (by omega)
      have hw : c = 65533 → 2 ≤ (enc c).length := fun e => enc_wide c (by omega)
      obtain ⟨n, hn⟩ : ∃ n, (enc c).length = n := ⟨_, rfl⟩
      rw [hn] at C hw hlen hsz
      generalize starts c = b at N ⊢
      clear hn h45
      by_cases hr : c = 65533
      · subst hr
        have hw2 := hw rfl
        clear hw t0
        cases b
        all_goals
          go_enter Tryz.func44, Tryz.ntmps44
          go_wp2_with fail
          refine (C.out).mono ?_
          rintro e w1 ⟨rfl, hb⟩
          go_wp2_with (go_at_call 47; refine (N.out _).mono ?_; rintro e w' ⟨rfl, rfl⟩)
          go_ret
          exact ⟨rfl, hb⟩
      · have t1 : ((c : Int) == 65533) = false := beq_eq_false_iff_ne.2 (by omega)
        clear hw hr
        cases b
        all_goals
          go_enter Tryz.func44, Tryz.ntmps44
          go_wp2_with fail
          refine (C.out).mono ?_
          rintro e w1 ⟨rfl, hb⟩
          go_wp2_with (go_at_call 47; refine (N.out _).mono ?_; rintro e w' ⟨rfl, rfl⟩)
          go_ret
          exact ⟨rfl, hb⟩

theorem implWould (s : ByteArray) (w : World) (hz : s.size ≤ 4294967296) (l : List Nat) (hl : ∀ c ∈ l, Cp c) (hd : s.data.toList = encs l) (hT : Lib.Utf8Tabs 0 1 w) :
    Calls Tryz.prog 23 #[.string s] w fun e w' => e = .returned (.bool (wsC l)) ∧ Below w.heap.size w w' := by
  have C := Lib.hid (implWould0 s w hz l hl hd hT)
  clear hd hT hl
  go_enter Tryz.func23, Tryz.ntmps23
  go_wp2_with (go_at_call 44; refine (C.out).mono ?_; rintro e w' ⟨rfl, hb⟩)
  go_ret
  exact ⟨rfl, hb⟩
end Go.Proofs.YtmgkccnfhkcncaaGreatDoor
