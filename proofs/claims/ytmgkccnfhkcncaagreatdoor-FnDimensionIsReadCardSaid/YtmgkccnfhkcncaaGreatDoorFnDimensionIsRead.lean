/-
  FnDimensionIsRead: a number of 1 to 30000 digits with every plain unit of at most 32768 bytes is read as a dimension whose unit begins behind the digits (for all other arguments the statement says true). No condition.
-/
import Derived.Test.YtmgkccnfhkcncaaGreatDoorOneX
import Derived.Deep.RegionHeld3
import Derived.Deep.DrawnRows
import Derived.Lib.SlBytesRow
namespace Go.Proofs.YtmgkccnfhkcncaaGreatDoor.fnDimensionIsRead
open Go.RowKit
attribute [local go_sem ↓] Go.wp_at_zero Go.wp_at_succ

/-- What the walk is told of a slice of integers that came in: it is nil; or it leads to a row of 'cap' cells. -/
def IsRow (k : IntKind) (w : World) (a : Option Addr) (len cap : Nat) (zs : List Int) : Prop :=
  (a = none ∧ len = 0 ∧ cap = 0 ∧ zs = []) ∨
  ∃ x, a = some x ∧ len ≤ cap ∧ cap ≤ maxLen ∧ zs.length = cap ∧ (∀ i, i < zs.length → w.cell? (x.add i) = some (.int k (zs.getD i 0))) ∧ ∀ n ∈ zs, (Lit.int k n).wf = true

/-- The digit of a byte. -/
def digOf (v : Int) : Nat := 48 + (v % 10).toNat
theorem digOf_dg (v : Int) : isDg (digOf v) = true := by
  unfold isDg digOf
  have := Int.emod_nonneg v (show (10 : Int) ≠ 0 by decide)
  have := Int.emod_lt_of_pos v (show (0 : Int) < 10 by decide)
  exact decide_eq_true (by omega)

theorem cell_lt {w : World} {p : Addr} {v : Value} (h : w.cell? p = some v) : p.block < w.heap.size := by
  by_cases hb : p.block < w.heap.size
  · exact hb
  · exfalso
    have hn : w.heap[p.block]? = none := Array.getElem?_eq_none (by omega)
    simp [World.cell?, hn] at h
/-- What the loop over the digits carries. -/
def DRel (w : World) (B n : Nat) (F : Nat → Nat) (iv : Value) (wr : World) : Prop :=
  ∃ i : Nat, iv = .int .i64 (i : Int) ∧ i ≤ n ∧ Below w.heap.size w wr ∧ ∃ cs : Array Value, wr.heap[B]? = some (.cells cs 5 (0, 0)) ∧ cs.size = n ∧ ∀ j, j < i → cs[j]? = some (.int .u8 (F j : Int))
theorem bytes_back (l : List UInt8) : l = (⟨l.toArray⟩ : ByteArray).data.toList := rfl
theorem encs_dg : ∀ (ds : List Nat), (∀ d ∈ ds, isDg d = true) → encs ds = ds.map (fun d => d.toUInt8)
  | [], _ => rfl
  | d :: t, h => by
    have hd : 48 ≤ d ∧ d ≤ 57 := of_decide_eq_true (h d (by simp))
    rw [encs_cons, enc_ascii d (by omega), encs_dg t fun e he => h e (by simp [he])]
    rfl
/-- A token's zero block. -/
def zT : Array Value := #[.int .i64 0, .int .i64 0, .int .i64 0, .int .i64 0, .bool false, .string ⟨#[]⟩]
theorem bA {wr w2 : World} {o : Obj} (h : Below (wr.alloc o).drew.heap.size (wr.alloc o).drew w2) : Below wr.heap.size wr w2 :=
  ((Below.refl wr.heap.size wr).alloc (Nat.le_refl _) o).trans (below_le0 (below_undrew h) (by simp))
theorem bB {wr w2 : World} {o : Obj} (h : Below (wr.alloc o).heap.size (wr.alloc o) w2) : Below wr.heap.size wr w2 :=
  ((Below.refl wr.heap.size wr).alloc (Nat.le_refl _) o).trans (below_le0 h (by simp))
theorem newA {wr w2 : World} {Z : Array Value} {T : TypeId} (h : Below (wr.alloc (.cells Z T)).drew.heap.size (wr.alloc (.cells Z T)).drew w2) : w2.heap[wr.heap.size]? = some (.cells Z T (0, 0)) :=
  (h.block wr.heap.size (by show wr.heap.size < (wr.alloc (.cells Z T)).heap.size; simp)).trans (heap_alloc_new wr _)
theorem newB {wr w2 : World} {Z : Array Value} {T : TypeId} (h : Below (wr.alloc (.cells Z T)).heap.size (wr.alloc (.cells Z T)) w2) : w2.heap[wr.heap.size]? = some (.cells Z T (0, 0)) :=
  (h.block wr.heap.size (by simp)).trans (heap_alloc_new wr _)
theorem z_facts {w : World} {R : Nat} {T : TypeId} (h : w.heap[R]? = some (.cells #[.int .i64 0, .int .i64 0, .int .i64 0, .int .i64 0, .bool false, .string ⟨#[]⟩] T (0, 0))) :
    w.cell? ⟨R, 0, none⟩ = some (.int .i64 0) ∧ w.cell? ⟨R, 1, none⟩ = some (.int .i64 0) ∧ w.cell? ⟨R, 2, none⟩ = some (.int .i64 0) ∧ w.cell? ⟨R, 3, none⟩ = some (.int .i64 0) ∧ w.cell? ⟨R, 4, none⟩ = some (.bool false) ∧ w.cell? ⟨R, 5, none⟩ = some (.string ⟨#[]⟩) ∧
    w.frozen? ⟨R, 0, none⟩ = false ∧ w.frozen? ⟨R, 1, none⟩ = false ∧ w.frozen? ⟨R, 2, none⟩ = false ∧ w.frozen? ⟨R, 3, none⟩ = false ∧ w.frozen? ⟨R, 4, none⟩ = false ∧ w.frozen? ⟨R, 5, none⟩ = false := by
  refine ⟨?_, ?_, ?_, ?_, ?_, ?_, Lib.frozen_of_heap h 0, Lib.frozen_of_heap h 1, Lib.frozen_of_heap h 2, Lib.frozen_of_heap h 3, Lib.frozen_of_heap h 4, Lib.frozen_of_heap h 5⟩
  all_goals (rw [Lib.cell_of_heap h]; rfl)
theorem put6Bx {B : Nat} {a w : World} {g : Nat} (h : Below B a w) (hg : B ≤ g) (v0 v1 v2 v3 v4 v5 : Value) : Below B a (World.setCell (World.setCell (World.setCell (World.setCell (World.setCell (World.setCell w ⟨g, 0, none⟩ v0) ⟨g, 1, none⟩ v1) ⟨g, 2, none⟩ v2) ⟨g, 3, none⟩ v3) ⟨g, 4, none⟩ v4) ⟨g, 5, none⟩ v5) :=
  Below.setCell (Below.setCell (Below.setCell (Below.setCell (Below.setCell (Below.setCell (h) (p := ⟨g, 0, none⟩) hg v0) (p := ⟨g, 1, none⟩) hg v1) (p := ⟨g, 2, none⟩) hg v2) (p := ⟨g, 3, none⟩) hg v3) (p := ⟨g, 4, none⟩) hg v4) (p := ⟨g, 5, none⟩) hg v5
theorem infoU8 : (Tryz.prog.info? 5).map (fun i => (i.zero, i.size, i.bytes)) = some (some (.int .u8 0), 1, 1) := by kernel_rfl

set_option maxHeartbeats 8000000 in
set_option maxRecDepth 1000000 in
theorem walk (a0 : Option Addr) (len0 cap0 : Nat) (z0 : List Int) (a1 : ByteArray) (w : World) (w0 : IsRow .u8 w a0 len0 cap0 z0) (w1 : a1.size ≤ maxLen) (hT : Lib.Utf8Tabs 0 1 w) :
    Calls Tryz.prog 8 #[.slice a0 len0 cap0, .string a1] w fun e w' => e = .returned (.bool true) ∧ Below w.heap.size w w' := by
  unfold maxLen at w1
  by_cases hl0 : len0 ≤ 2147483647
  · by_cases h1 : a1.size ≤ 2147483647
    · have WK := Lib.hid (fun w hT => wakesI w hT)
      have T := Lib.hid hT
      have N := Lib.hid (fun w => lnamed a1 w)
      obtain ⟨b, hb⟩ : ∃ b, (decide (a1.size ≤ 32768) && (decide (a1.size ≠ 0) && plainL (120 :: a1.data.toList))) = b := ⟨_, rfl⟩
      rw [hb] at N
      have hl0' : (len0 : Int) ≤ 2147483647 := by omega
      cases b
      · clear hb hT w0
        go_enter Tryz.func8, Tryz.ntmps8
        go_wp2_with (go_at_call 19; refine (N.out _).mono ?_; rintro e w' ⟨rfl, rfl⟩)
        refine (WK.out _ T.out).mono ?_
        rintro e w1 ⟨rfl, hb1⟩
        go_wp2_with fail
        go_ret
        exact ⟨rfl, hb1⟩
      · by_cases hz : len0 = 0
        · subst hz
          clear hb hT w0
          go_enter Tryz.func8, Tryz.ntmps8
          go_wp2_with (go_at_call 19; refine (N.out _).mono ?_; rintro e w' ⟨rfl, rfl⟩)
          refine (WK.out _ T.out).mono ?_
          rintro e w1 ⟨rfl, hb1⟩
          go_wp2_with fail
          go_ret
          exact ⟨rfl, hb1⟩
        · have t0 : ((len0 : Int) == 0) = false := beq_eq_false_iff_ne.2 (by omega)
          by_cases hbig : 30000 < len0
          · have hbig' : (30000 : Int) < (len0 : Int) := by omega
            clear hb hT w0
            go_enter Tryz.func8, Tryz.ntmps8
            go_wp2_with (go_at_call 19; refine (N.out _).mono ?_; rintro e w' ⟨rfl, rfl⟩)
            refine (WK.out _ T.out).mono ?_
            rintro e w1 ⟨rfl, hb1⟩
            go_wp2_with fail
            go_ret
            exact ⟨rfl, hb1⟩
          · have hbig' : ¬ (30000 : Int) < (len0 : Int) := by omega
            simp only [Bool.and_eq_true, decide_eq_true_eq] at hb
            obtain ⟨h2, h3, h4⟩ := hb
            obtain ⟨l, hd, hl⟩ := plainL_x h4
            have hll : l.length ≤ 32768 := by have := encs_len_le l; rw [← size_of hd] at this; omega
            have hne : l ≠ [] := by
              rintro rfl
              exact absurd (size_of hd) (by simpa [encs] using h3)
            have e0 : a1 = strOf l := eq_strOf hd
            subst e0
            have hmk : ∀ w, (Instr.makeSlice 40 (.int .i64 (len0 : Int)) (.int .i64 (len0 : Int))).run Tryz.prog w = .ok (.slice (some ⟨w.heap.size, 0, none⟩) len0 len0) (w.alloc (.cells (madeCells #[.int .u8 0] len0) 5)) := by
              intro w
              obtain ⟨i, hi, hz0, hz1, hz2⟩ := parts_of infoU8
              have h := run_make (P := Tryz.prog) w 40 5 i (.int .u8 0) Tryz.underlying40 hi hz0 .i64 .i64 len0 len0 (by omega) (Int.le_refl _) (by rw [hz2]; omega) (by omega)
              rw [hz1, Int.toNat_natCast, Nat.mul_one] at h
              exact h
            -- what stands at index i
            have hcell : ∀ i, i < len0 → ∃ b off, ∃ d : Nat, a0 = some ⟨b, off, none⟩ ∧ w.cell? ⟨b, off + i, none⟩ = some (.int .u8 (d : Int)) ∧ z0.getD i 0 = (d : Int) ∧ d ≤ 255 ∧ b < w.heap.size := by
              intro i hi
              rcases w0 with ⟨_, h0, _⟩ | ⟨x, hx, h1, _, h3, h4, h5⟩
              · omega
              · obtain ⟨b, off, spot⟩ := x
                have hc0 := h4 0 (by omega)
                have hspot : spot = none := by simpa [Addr.add] using World.cell?_spot hc0
                subst hspot
                have hc := h4 i (by omega)
                have hadd : (⟨b, off, none⟩ : Addr).add i = ⟨b, off + i, none⟩ := by
                  by_cases hi0 : i = 0
                  · simp [Addr.add, hi0]
                  · simp [Addr.add, hi0]
                rw [hadd] at hc
                have hm : z0.getD i 0 ∈ z0 := by
                  rw [List.getD_eq_getElem?_getD, List.getElem?_eq_getElem (by omega)]
                  exact List.getElem_mem _
                have hw := h5 _ hm
                have hr : 0 ≤ z0.getD i 0 ∧ z0.getD i 0 ≤ 255 := by
                  simpa [Lit.wf, IntKind.min, IntKind.max, IntKind.signed, IntKind.bits] using hw
                refine ⟨b, off, (z0.getD i 0).toNat, hx, by rw [hc]; congr 2; omega, by omega, by omega, cell_lt hc⟩
            have HC := Lib.hid hcell
            have hsz : (madeCells #[.int .u8 0] len0).size = len0 := by rw [size_madeCells]
            have START := Lib.hid (show DRel w w.heap.size len0 (fun j => digOf (z0.getD j 0)) (.int .i64 0) (w.alloc (.cells (madeCells #[.int .u8 0] len0) 5)) from ⟨0, rfl, Nat.zero_le _, (Below.refl _ _).alloc (Nat.le_refl _) _, _, heap_alloc_new w _, hsz, fun j hj => absurd hj (by omega)⟩)
            clear hcell w0 hsz
            have HZ := Lib.hid (show 0 < len0 by omega)
            clear h2 h3 h4 hz hbig
            go_enter Tryz.func8, Tryz.ntmps8
            go_wp2_with (go_at_call 19; refine (N.out _).mono ?_; rintro e w' ⟨rfl, rfl⟩)
            go_loopw [37] (fun iv wr => DRel w w.heap.size len0 (fun j => digOf (z0.getD j 0)) iv wr) (fun iv _ => len0 - (numOf (some iv)).toNat)
            case atStart => exact START.out
            case round =>
              obtain ⟨i, rfl, hil, hB, cs, hcs, hsz, hF⟩ := hrel
              have HB := Lib.hid hB
              have HCS := Lib.hid hcs
              have HF := Lib.hid hF
              clear START hB hF hcs
              by_cases hi2 : i < len0
              · obtain ⟨b, off, d, rfl, hc, hzd, hd255, hbl⟩ := HC.out i hi2
                have g1 : (i : Int) < (len0 : Int) := by omega
                have dc : wr.cell? ⟨b, off + i, none⟩ = some (.int .u8 (d : Int)) := (HB.out.cell (p := ⟨b, off + i, none⟩) hbl).trans hc
                have hi0 : (0 : Int) ≤ (i : Int) := by omega
                have hi3 : ((i : Int)).toNat = i := by omega
                have cw : wr.cell? ⟨w.heap.size, i, none⟩ = some (cs[i]'(by omega)) := by rw [Lib.cell_of_heap HCS.out]; exact Array.getElem?_eq_getElem _
                have zw := Lib.frozen_of_heap HCS.out i
                clear hc
                go_wp2_with fail
                refine ⟨⟨i + 1, by go_num, by omega, HB.out.setCell (p := ⟨w.heap.size, i, none⟩) (Nat.le_refl _) _, _, heap_put HCS.out i _, by simpa using hsz, fun j hj => ?_⟩, ?_⟩
                · by_cases e : j = i
                  · subst e
                    rw [Array.getElem?_setIfInBounds_self_of_lt (by omega)]
                    show _ = some (Value.int .u8 ((digOf (z0.getD j 0) : Nat) : Int))
                    rw [hzd]
                    unfold digOf
                    congr 2
                  · rw [Array.getElem?_setIfInBounds_ne (by omega)]
                    exact HF.out j (by omega)
                · show len0 - ((i : Int) + 1).toNat < len0 - (i : Int).toNat
                  omega
              · obtain rfl : i = len0 := by omega
                have g1 : ¬ ((i : Int) < (i : Int)) := by omega
                obtain ⟨ds, hds⟩ : ∃ ds, (List.range i).map (fun j => digOf (z0.getD j 0)) = ds := ⟨_, rfl⟩
                have hdl : ds.length = i := by rw [← hds]; simp
                have hdg : ∀ d ∈ ds, isDg d = true := by
                  intro d hd
                  rw [← hds] at hd
                  obtain ⟨j, _, rfl⟩ := List.mem_map.1 hd
                  exact digOf_dg _
                have hed := encs_digits ds hdg
                have hby : ∀ w', Below wr.heap.size wr w' → Lib.Bytes w' w.heap.size 0 (strOf ds) := by
                  intro w' hw' j hj
                  have hj2 : j < i := by
                    have : (strOf ds).size = (encs ds).length := rfl
                    omega
                  rw [Nat.zero_add]
                  refine (hw'.cell (p := ⟨w.heap.size, j, none⟩) (Array.getElem?_eq_some_iff.1 HCS.out).1).trans ?_
                  rw [Lib.cell_of_heap HCS.out, HF.out j hj2]
                  have hx : (strOf ds).data.toList[j]? = some (digOf (z0.getD j 0)).toUInt8 := by
                    rw [strOf_list, encs_dg ds hdg, ← hds]
                    simp [hj2]
                  have hy : (strOf ds).data.toList[j]? = some (strOf ds)[j] := List.getElem?_eq_getElem (by exact hj)
                  rw [hy] at hx
                  rw [Option.some.inj hx, toUInt8_toNat]
                  have : 48 ≤ digOf (z0.getD j 0) ∧ digOf (z0.getD j 0) ≤ 57 := of_decide_eq_true (digOf_dg (z0.getD j 0))
                  omega
                have CV := Lib.hid (fun w' (h : Below wr.heap.size wr w') => Lib.run_convert_whole (P := Tryz.prog) w' 40 5 9 Tryz.underlying40 Tryz.underlying5 Tryz.underlying9 w.heap.size 0 (strOf ds) (hby w' h) i)
                obtain ⟨c, t, rfl⟩ : ∃ c t, l = c :: t := by
                  cases l with
                  | nil => exact absurd rfl hne
                  | cons c t => exact ⟨c, t, rfl⟩
                have U := Lib.hid (fun w => unitX (strOf (c :: t)) w (by omega) c t hl rfl)
                have zu := unitC_len (c :: t) hl
                have yu := strOf_size (unitC (c :: t))
                have yd := strOf_size ds
                have y2 := strOf_size (ds ++ unitC (c :: t))
                have e1 : strOf ds ++ strOf (unitC (c :: t)) = strOf (ds ++ unitC (c :: t)) := cat_strOf _ _
                have hne2 : ds ≠ [] := by rintro rfl; have := HZ.out; simp at hdl; omega
                have O := Lib.hid (fun w hT => oneX (ds ++ unitC (c :: t)) (fun x hx => by
                  rcases List.mem_append.1 hx with hx | hx
                  · have : 48 ≤ x ∧ x ≤ 57 := of_decide_eq_true (hdg x hx)
                    unfold Cp; omega
                  · exact unitC_cp _ hl x hx) 26 ds.length 0 _ w hT (by simp only [List.length_append] at y2; omega) (by
                  cases ds with
                  | nil => exact absurd rfl hne2
                  | cons d u =>
                    have : 48 ≤ d ∧ d ≤ 57 := of_decide_eq_true (hdg d (by simp))
                    simp; omega) (by simp [hne2]) (nx_dim ds (c :: t) hdg hne2 hl (by simp)) (by decide) (by decide) (by omega) ⟨by omega, by omega, by omega⟩ (.inl rfl) (bytes_back _))
                rw [← e1, hdl] at O
                obtain ⟨tx, htx⟩ : ∃ x : ByteArray, (⟨(decText 26 (encs (ds ++ unitC (c :: t)))).toArray⟩ : ByteArray) = x := ⟨_, rfl⟩
                rw [htx] at O
                clear htx
                have hsz1 : (strOf ds).size = i := hed.trans hdl
                rw [hsz1] at CV
                have hz1 : (strOf (unitC (c :: t))).size ≤ 1048576 := by omega
                have hz2 : (strOf ds).size ≤ 30000 := by omega
                obtain ⟨s1, hs1⟩ : ∃ x, strOf ds = x := ⟨_, rfl⟩
                obtain ⟨s2, hs2⟩ : ∃ x, strOf (unitC (c :: t)) = x := ⟨_, rfl⟩
                obtain ⟨s0, hs0⟩ : ∃ x, strOf (c :: t) = x := ⟨_, rfl⟩
                rw [hs1] at CV hz2 O
                rw [hs2] at U hz1 O
                rw [hs0] at U N h1
                have cv := CV.out wr.drew (Below.drew (Below.refl _ _))
                clear hds hdl hdg hed hby zu yu yd y2 e1 hne2 hsz1 hs1 hs2 hl hne hll hd w1
                go_upto_region 11 with fail
                rw [hs0]
                clear hs0
                have cvA := CV.out (wr.alloc (.cells #[.int .i64 0, .int .i64 0, .int .i64 0, .int .i64 0, .bool false, .string ⟨#[]⟩] 36)).drew (Below.drew ((Below.refl _ _).alloc (Nat.le_refl _) _))
                go_cut [8, 9] (fun v8 v9 wx => ∃ (r : Nat) (z : Int), v8 = .pointer (some ⟨r, 0, none⟩) ∧ v9 = .bool true ∧ wx.heap[r]? = some (.cells #[.int .i64 26, .int .i64 0, .int .i64 z, .int .i64 (i : Int), .bool false, .string tx] 36 (0, 0)) ∧ Below wr.heap.size wr wx)
                case first =>
                  go_region_with (first | (go_at_call 28; refine (U.out _).mono ?_; rintro e w2 ⟨rfl, hb2⟩; have hX : Below wr.heap.size wr w2 := (by first | exact below_undrew hb2 | exact bA hb2); have HX := Lib.hid hX; have cv2 := CV.out w2 hX; have cv2A := CV.out (w2.alloc (.cells #[.int .i64 0, .int .i64 0, .int .i64 0, .int .i64 0, .bool false, .string ⟨#[]⟩] 36)) (hX.alloc hX.size _); try (have K2 := Lib.hid (newA hb2); obtain ⟨y0, y1, y2, y3, y4, y5, f0, f1, f2, f3, f4, f5⟩ := z_facts K2.out); clear hX hb2) | (go_at_call 20; refine (O.out _ (by first | exact Utf8Tabs_below T.out (HB.out.trans (HX.out.mono HB.out.size)) | exact Utf8Tabs_below T.out ((HB.out.trans (HX.out.mono HB.out.size)).alloc (HB.out.trans (HX.out.mono HB.out.size)).size _))).mono ?_; rintro e w3 ⟨rfl, hb3⟩; first | (have K3 := Lib.hid (newB hb3); obtain ⟨x0, x1, x2, x3, x4, x5, g0, g1, g2, g3, g4, g5⟩ := z_facts K3.out) | (have K3 := Lib.hid ((hb3.block wr.heap.size (Array.getElem?_eq_some_iff.1 K2.out).1).trans K2.out); obtain ⟨x0, x1, x2, x3, x4, x5, g0, g1, g2, g3, g4, g5⟩ := z_facts K3.out) | skip))
                  all_goals
                    have B3 : Below wr.heap.size wr w3 := by first | exact HX.out.trans (hb3.mono HX.out.size) | exact HX.out.trans ((bB hb3).mono HX.out.size)
                    have HB3 := Lib.hid B3
                    have HXS : wr.heap.size ≤ w2.heap.size := HX.out.size
                    clear B3 hb3
                    go_wp2_with fail
                    go_meet
                    first
                    | (have k3 := K3.out; exact ⟨_, _, rfl, rfl, put6H k3 _ _ _ _ _ _, put6Bx HB3.out (by first | exact Nat.le_refl _ | exact HXS) _ _ _ _ _ _⟩)
                    | exact ⟨_, _, rfl, rfl, heap_alloc_new w3 _, HB3.out.alloc HB3.out.size _⟩
                case rest =>
                  obtain ⟨r, z, rfl, rfl, hr, hbw⟩ := hcut
                  have BW := Lib.hid (HB.out.trans (hbw.mono HB.out.size))
                  have q0 : wc.cell? ⟨r, 0, none⟩ = some (.int .i64 26) := by rw [Lib.cell_of_heap hr]; rfl
                  have q3 : wc.cell? ⟨r, 3, none⟩ = some (.int .i64 (i : Int)) := by rw [Lib.cell_of_heap hr]; rfl
                  clear hr hbw
                  go_wp2_with fail
                  refine (WK.out _ (Utf8Tabs_below T.out BW.out)).mono ?_
                  rintro e w4 ⟨rfl, hb4⟩
                  go_wp2_with fail
                  go_ret
                  exact ⟨rfl, BW.out.trans (hb4.mono BW.out.size)⟩
    · have h1' : (2147483647 : Int) < (a1.size : Int) := by omega
      have hl0' : (len0 : Int) ≤ 2147483647 := by omega
      clear hT w0
      go_enter Tryz.func8, Tryz.ntmps8
      go_wp2
      go_ret
      exact ⟨rfl, Below.refl _ _⟩
  · have hl0' : (2147483647 : Int) < (len0 : Int) := by omega
    clear hT w0
    go_enter Tryz.func8, Tryz.ntmps8
    go_wp2
    go_ret
    exact ⟨rfl, Below.refl _ _⟩
end Go.Proofs.YtmgkccnfhkcncaaGreatDoor.fnDimensionIsRead
