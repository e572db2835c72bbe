/-
  Plain Lean, no program: a written name, text or address is one token, and what this decodes to.
-/
import Derived.Test.YtmgkccnfhkcncaaGreatDoorMathP
import Derived.Test.YtmgkccnfhkcncaaGreatDoorTrim
import Derived.Test.YtmgkccnfhkcncaaGreatDoorImp
namespace Go.Proofs.YtmgkccnfhkcncaaGreatDoor
open Go

/-! ### one token is the text -/
theorem tokB_one (m : List Nat) (kd uo fl : Nat) (h : nxB (encs m) = some (kd, uo, fl, [])) (hm : m ≠ []) (hk : kd ≠ 0) (hu : uo ≤ 65535) : TokB (strOf m).size [⟨kd, uo, fl, 0, (strOf m).size⟩] (strOf m).data.toList := by
  have hl : 0 < (encs m).length := List.length_pos_iff.2 fun e => hm ((encs_eq_nil m).1 e)
  refine ⟨fun e => hm ((encs_eq_nil m).1 e), hk, hu, [], h, ?_, ?_, ?_, rfl⟩
  · show 0 + (encs m).length = (encs m).length
    omega
  · show (encs m).length + 0 = (encs m).length
    omega
  · exact hl
theorem hdB_first (m : List Nat) (h : ∀ c ∈ m, Cp c) (hm : m.head? ≠ some 65279) : hdB (strOf m).data.toList ≠ 65279 := by
  show hdB (encs m) ≠ 65279
  rw [hdB_encs m h]
  cases m with
  | nil => decide
  | cons c t =>
    rw [cpAt_zero_cons]
    intro e
    apply hm
    have : c = 65279 := by omega
    rw [this]; rfl
theorem strOf_all (m : List Nat) : (strOf m).extract 0 (strOf m).size = strOf m := by
  refine eq_strOf ?_
  rw [ext_list]
  show ((encs m).take (encs m).length).drop 0 = encs m
  rw [List.take_length, List.drop_zero]
theorem tkOk_one (m : List Nat) (kd uo fl : Nat) (hk : kd ≤ 255) (hu : uo ≤ 65535) (hd : DecOk kd (encs m)) (hf : fl = 0 ∨ fl = 1) : TkOk (strOf m) ⟨kd, uo, fl, 0, (strOf m).size⟩ := by
  refine ⟨hk, hu, Nat.zero_le _, Nat.le_refl _, ?_, hf⟩
  show DecOk kd ((strOf m).extract 0 (strOf m).size).data.toList
  rw [strOf_all]
  exact hd

/-! ### what it decodes to -/
theorem dec_id (m l : List Nat) (h : ∀ c ∈ m, Cp c) (hd : decP m = l) : decText 29 (encs m) = encs l := by
  show decodeB (encs m) = _
  rw [decodeB_encs m h, hd]
theorem enc_one (a : Nat) (h : a < 128) : (enc a).length = 1 := by rw [enc_ascii a h]; rfl
theorem encs_drop1 (a : Nat) (h : a < 128) (m : List Nat) : (encs (a :: m)).drop 1 = encs m := by
  rw [encs_cons, enc_ascii a h]; rfl
theorem encs_take (m : List Nat) (b : Nat) (h : b < 128) : (encs (m ++ [b])).take ((encs (m ++ [b])).length - 1) = encs m := by
  rw [encs_append, encs_one, enc_ascii b h, List.length_append, List.length_singleton, Nat.add_sub_cancel, List.take_left]
theorem dec_at (kd : Nat) (hk : kd = 1 ∨ kd = 28) (a : Nat) (ha : a < 128) (m l : List Nat) (h : ∀ c ∈ m, Cp c) (hd : decP m = l) : decText kd (encs (a :: m)) = encs l := by
  unfold decText
  rw [if_pos (by unfold isDec; exact decide_eq_true (by omega))]
  unfold inner
  rw [if_pos hk, encs_drop1 a ha, decodeB_encs m h, hd]
theorem dec_fun (m l : List Nat) (b : Nat) (hb : b < 128) (h : ∀ c ∈ m, Cp c) (hd : decP m = l) : decText 27 (encs (m ++ [b])) = encs l := by
  show decodeB ((encs (m ++ [b])).take ((encs (m ++ [b])).length - 1)) = _
  rw [encs_take m b hb, decodeB_encs m h, hd]
theorem dec_quo (m l : List Nat) (q : Nat) (hq : q < 128) (h : ∀ c ∈ m, Cp c) (hd : decP m = l) : decText 36 (encs (q :: (m ++ [q]))) = encs l := by
  show decodeB (((encs (q :: (m ++ [q]))).take ((encs (q :: (m ++ [q]))).length - 1)).drop 1) = _
  rw [← List.cons_append, encs_take (q :: m) q hq, encs_drop1 q hq, decodeB_encs m h, hd]

/-! ### an address: a blank behind its last escape is trimmed -/
theorem decP_addrChar (c : Nat) (h : Cp c) (r : List Nat) : decP (addrChar c ++ r) = c :: decP r := by
  unfold addrChar
  by_cases h1 : isCtl c = true
  · rw [if_pos h1, decP_coded 1 c h (by omega)]
  · rw [if_neg h1]
    have hc' : ¬ ((1 ≤ c ∧ c ≤ 31) ∨ c = 127) := fun hh => h1 (decide_eq_true hh)
    have := h.1
    by_cases h2 : isWs c = true ∨ c = 34 ∨ c = 39 ∨ c = 40 ∨ c = 41 ∨ c = 92
    · rw [if_pos h2]
      have hw : c = 32 ∨ c = 34 ∨ c = 39 ∨ c = 40 ∨ c = 41 ∨ c = 92 := by
        rcases h2 with h2 | h2
        · simp [isWs] at h2; omega
        · omega
      have hx : hexv c = none := hexv_none (by omega)
      have hn : isNl c = false := by simp [isNl]; omega
      exact decP_back c r hx hn
    · rw [if_neg h2]
      exact decP_plain c r fun h3 => h2 (.inr (.inr (.inr (.inr (.inr h3)))))
theorem decP_addr : ∀ (l r : List Nat), (∀ c ∈ l, Cp c) → decP (addrC l ++ r) = l ++ decP r
  | [], _, _ => rfl
  | c :: t, r, h => by
    rw [addrC_cons, List.append_assoc, decP_addrChar c (h c (by simp)), decP_addr t r fun d hd => h d (by simp [hd])]
    rfl
/-- An escape of digits at the end, without its blank. -/
theorem decP_digs (c : Nat) (h : Cp c) : decP (92 :: digs 1 c) = [c] := by
  have hc : c ≤ 1114111 := by unfold Cp at h; omega
  obtain ⟨d, t, hd⟩ := digs_ne 1 c h.1
  have hh := digs_hex 1 c
  have hv := digs_val 1 c
  have hle := digs_len 1 c hc (by omega)
  rw [hd] at hh hv hle ⊢
  obtain ⟨x, hx⟩ := hh d (by simp)
  have hr := hexRunC_digits 5 x t [] (fun e he => hh e (by simp [he])) (by simp only [List.length_cons] at hle; omega) (by intro e u he; cases he)
  rw [List.append_nil] at hr
  have hxv : val x t = c := by rw [val_cons, hx] at hv; simpa using hv
  have e2 : escC d t = ([c], []) := by
    unfold escC
    rw [hx]
    dsimp only
    rw [hr]
    dsimp only
    rw [hxv, fix_self c h]
    rfl
  rw [decP_step _ (by simp), stepC_esc, e2]
  rfl
theorem wsU_byte {c : Nat} {b : UInt8} (hb : b ∈ enc c) : wsU b = isWs c := sp_byte hb
theorem rtrim_keep (a : List UInt8) (b : UInt8) (h : wsU b = false) : rtrim (a ++ [b]) = a ++ [b] := by
  unfold rtrim
  rw [List.reverse_append, List.reverse_singleton, List.singleton_append, List.dropWhile_cons, h]
  simp
theorem rtrim_one (a : List UInt8) (b : UInt8) (h : wsU b = true) : rtrim (a ++ [b]) = rtrim a := by
  unfold rtrim
  rw [List.reverse_append, List.reverse_singleton, List.singleton_append, List.dropWhile_cons, h]
  simp
/-- Behind a code point that is no whitespace nothing is trimmed. -/
theorem rtrim_encs (m : List Nat) (c : Nat) (h : isWs c = false) : rtrim (encs (m ++ [c])) = encs (m ++ [c]) := by
  rw [encs_append, encs_one]
  rcases List.eq_nil_or_concat (enc c) with he | ⟨x, y, he⟩
  · exact absurd he (enc_ne c)
  · rw [List.concat_eq_append] at he
    have hy : wsU y = false := by rw [wsU_byte (c := c) (by rw [he]; simp), h]
    rw [he, ← List.append_assoc, rtrim_keep _ _ hy]
theorem hex_ws {d x : Nat} (h : hexv d = some x) : isWs d = false := by
  have := hexv_ascii h
  simp [isWs]; omega
theorem wsU_32 : wsU 32 = true := by decide
theorem enc_32 : enc 32 = [32] := by rw [enc_ascii 32 (by omega)]; rfl
theorem ltrim_encs (m : List Nat) (hm : ∀ c u, m = c :: u → isWs c = false) : (encs m).dropWhile wsU = encs m := by
  cases m with
  | nil => rfl
  | cons c u =>
    have hc := hm c u rfl
    cases he : enc c with
    | nil => exact absurd he (enc_ne c)
    | cons x y =>
      have hx : wsU x = false := by rw [wsU_byte (c := c) (by rw [he]; simp), hc]
      rw [encs_cons, he, List.cons_append, List.dropWhile_cons, hx]
      rfl
/-- The inside of an address, trimmed, and decoded. -/
theorem addr_inside (l : List Nat) (h : ∀ c ∈ l, Cp c) (ht : trimC l = true) : ∃ m, rtrim (encs (addrC l)) = encs m ∧ (∀ c ∈ m, Cp c) ∧ decP m = l := by
  rcases List.eq_nil_or_concat l with rfl | ⟨l', c, rfl⟩
  · exact ⟨[], rfl, by simp, rfl⟩
  · rw [List.concat_eq_append] at h ht ⊢
    have hw : isWs c = false := by
      unfold trimC at ht
      split at ht
      · rename_i heq; simp at heq
      · rename_i d t heq
        simp only [Bool.and_eq_true, Bool.not_eq_true'] at ht
        have : (d :: t).getLast (by simp) = c := by
          have e : (d :: t).getLast? = (l' ++ [c]).getLast? := by rw [heq]
          rw [List.getLast?_append, List.getLast?_eq_some_getLast (by simp)] at e
          simpa using e
        rw [this] at ht
        exact ht.2
    have hc := h c (by simp)
    have hl' : ∀ d ∈ l', Cp d := fun d hd => h d (by simp [hd])
    have e1 : addrC (l' ++ [c]) = addrC l' ++ addrChar c := by simp [addrC]
    have hall := addrC_cp (l' ++ [c]) h
    have hdec : decP (addrC (l' ++ [c])) = l' ++ [c] := by
      have := decP_addr (l' ++ [c]) [] h
      rwa [List.append_nil, decP_nil, List.append_nil] at this
    rw [e1] at hall hdec ⊢
    by_cases h1 : isCtl c = true
    · have e2 : addrChar c = codedC 1 c := if_pos h1
      have e3 : addrC l' ++ addrChar c = (addrC l' ++ 92 :: digs 1 c) ++ [32] := by rw [e2]; unfold codedC; simp
      rcases List.eq_nil_or_concat (digs 1 c) with hn | ⟨x, d, hx⟩
      · obtain ⟨d, t, hd⟩ := digs_ne 1 c hc.1
        rw [hd] at hn; cases hn
      · rw [List.concat_eq_append] at hx
        obtain ⟨v, hv⟩ := digs_hex 1 c d (by rw [hx]; simp)
        refine ⟨addrC l' ++ 92 :: digs 1 c, ?_, ?_, ?_⟩
        · rw [e3, encs_append, encs_one, enc_32, rtrim_one _ _ wsU_32]
          have e4 : addrC l' ++ 92 :: digs 1 c = (addrC l' ++ 92 :: x) ++ [d] := by rw [hx]; simp
          rw [e4, rtrim_encs _ d (hex_ws hv)]
        · intro d hd
          exact hall d (by rw [e3]; exact List.mem_append_left _ hd)
        · rw [decP_addr l' _ hl', decP_digs c hc]
    · have e2 : ∃ y, addrChar c = y ++ [c] := by
        unfold addrChar
        rw [if_neg h1]
        split
        · exact ⟨[92], rfl⟩
        · exact ⟨[], rfl⟩
      obtain ⟨y, hy⟩ := e2
      refine ⟨addrC l' ++ addrChar c, ?_, hall, hdec⟩
      rw [hy, ← List.append_assoc, rtrim_encs _ c hw]
def addrT (l : List Nat) : List Nat := 117 :: 114 :: 108 :: 40 :: (addrC l ++ [41])
theorem encs_url (m : List Nat) : encs (117 :: 114 :: 108 :: 40 :: m) = 117 :: 114 :: 108 :: 40 :: encs m := by
  rw [encs_cons, encs_cons, encs_cons, encs_cons, enc_ascii 117 (by omega), enc_ascii 114 (by omega), enc_ascii 108 (by omega), enc_ascii 40 (by omega)]
  rfl
theorem enc_41 : enc 41 = [41] := by rw [enc_ascii 41 (by omega)]; rfl
theorem addrT_encs (l : List Nat) : encs (addrT l) = 117 :: 114 :: 108 :: 40 :: (encs (addrC l) ++ [41]) := by
  unfold addrT
  rw [encs_url, encs_append, encs_one, enc_41]
theorem urlEnd_addr (l : List Nat) : urlEnd (encs (addrT l)) = 4 + (encs (addrC l)).length := by
  rw [addrT_encs]
  have e : (117 :: 114 :: 108 :: 40 :: (encs (addrC l) ++ [41]) : List UInt8) = (117 :: 114 :: 108 :: 40 :: encs (addrC l)) ++ [41] := rfl
  rw [e]
  unfold urlEnd
  rw [List.length_append, List.length_singleton, Nat.add_sub_cancel, if_pos]
  · simp only [List.length_cons]; omega
  · rw [List.getElem?_append_right (Nat.le_refl _), Nat.sub_self]; rfl
theorem dec_url (l : List Nat) (h : ∀ c ∈ l, Cp c) (ht : trimC l = true) : decText 37 (encs (addrT l)) = encs l := by
  unfold decText
  rw [if_pos (show isDec 37 = true by decide)]
  unfold inner
  rw [if_neg (by decide), if_neg (by decide), if_neg (by decide), if_pos rfl, urlEnd_addr, addrT_encs]
  have e : ((117 :: 114 :: 108 :: 40 :: (encs (addrC l) ++ [41]) : List UInt8).take (4 + (encs (addrC l)).length)).drop 4 = encs (addrC l) := by
    rw [Nat.add_comm]
    show ((encs (addrC l) ++ [41]).take (encs (addrC l)).length) = _
    exact List.take_left
  rw [e, ltrim_encs]
  · obtain ⟨m, h1, h2, h3⟩ := addr_inside l h ht
    rw [h1, decodeB_encs m h2, h3]
  · intro c u he
    exact (addrC_first l [] h c (u ++ [41]) (by rw [he]; rfl)).1
theorem ok_url (l : List Nat) : DecOk 37 (encs (addrT l)) := by
  refine ⟨by omega, by omega, fun _ => ⟨by rw [urlEnd_addr]; omega, by rw [addrT_encs]; simp⟩⟩
theorem addrChar_len (c : Nat) (h : Cp c) : (addrChar c).length ≤ 8 := by
  unfold addrChar
  by_cases h1 : isCtl c = true
  · rw [if_pos h1]; exact codedC_len 1 c h (by omega)
  · rw [if_neg h1]; split <;> simp
theorem addrC_len : ∀ (l : List Nat), (∀ c ∈ l, Cp c) → (addrC l).length ≤ 8 * l.length
  | [], _ => Nat.le_refl _
  | c :: t, h => by
    have h1 := addrChar_len c (h c (by simp))
    have h2 := addrC_len t fun d hd => h d (by simp [hd])
    rw [addrC_cons, List.length_append, List.length_cons]; omega

/-! ### a mark at the beginning -/
def markB (l : List UInt8) : Bool := match l with
  | a :: b :: c :: _ => decide (a = 239) && (decide (b = 187) && decide (c = 191))
  | _ => false
theorem mark_first (l : List Nat) (h : markB (encs l) = false) : l.head? ≠ some 65279 := by
  cases l with
  | nil => simp
  | cons c t =>
    intro e
    have : c = 65279 := by simpa using e
    subst this
    have e2 : enc 65279 = [239, 187, 191] := by decide +kernel
    rw [encs_cons, e2] at h
    simp [markB] at h
theorem ident_first (l : List Nat) (h : ∀ c ∈ l, Cp c) (hl : l.head? ≠ some 65279) (r : List Nat) (hr : r.head? ≠ some 65279) : (identC l ++ r).head? ≠ some 65279 := by
  have key : ∀ (dig lone : Bool) (c : Nat) (u : List Nat), Cp c → (lone = true → c = 45) → c ≠ 65279 → (idChar dig lone c ++ u).head? ≠ some 65279 := by
    intro dig lone c u hc hlo hne
    rcases idChar_form dig lone c hc hlo u with ⟨d, t, h1, _⟩ | ⟨h1, _⟩
    · rw [h1]; simp
    · rw [h1]; simpa using hne
  match l, h, hl with
  | [], _, _ => exact hr
  | [c], h, hl => exact key true (c == 45) c r (h c (by simp)) (by simp) (by simpa using hl)
  | c :: d :: t, h, hl =>
    show ((idChar true false c ++ idChar (c == 45) false d ++ idRest false t) ++ r).head? ≠ _
    rw [List.append_assoc, List.append_assoc]
    exact key true false c _ (h c (by simp)) (by simp) (by simpa using hl)
/-- How a name begins. -/
theorem name_begins (l : List Nat) (h : ∀ c ∈ l, Cp c) (hl : l ≠ []) : ∃ c t, nameC l = c :: t ∧ (conts c = true ∨ (c = 92 ∧ escOk t = true)) := by
  cases l with
  | nil => exact absurd rfl hl
  | cons c t =>
    rw [nameC_cons]
    rcases idChar_form false false c (h c (by simp)) (by simp) (nameC t) with ⟨d, u, h1, h2⟩ | ⟨h1, h2, _⟩
    · exact ⟨92, d :: u, h1, .inr ⟨rfl, by show (!isNl d) = true; rw [h2]; rfl⟩⟩
    · exact ⟨c, nameC t, h1, .inl h2⟩
end Go.Proofs.YtmgkccnfhkcncaaGreatDoor
