/-
  css_lexer's lexer: how it is made: the log, the tracker; rows and blocks.
-/
import Derived.Test.YtmgkccnfhkcncaaGreatDoorLxI
import Derived.Test.YtmgkccnfhkcncaaGreatDoorLoop
import Derived.RegionTactic
import Derived.Laws.ResultCell
import Derived.Laws.EntriesVeiled
import Derived.Deep.AppendLies
import Derived.Outline
import Derived.Laws.CopyOwn
namespace Go.Proofs.YtmgkccnfhkcncaaGreatDoor
open Go.RowKit
attribute [local go_sem ↓] Go.wp_at_zero Go.wp_at_succ

theorem infoTrk : (Tryz.prog.info? 119).map (·.size) = some 10 := by kernel_rfl
theorem infoLog : (Tryz.prog.info? 83).map (·.size) = some 6 := by kernel_rfl
/-- A source's cells. -/
def srcC (s : ByteArray) : Array Value := #[.string ⟨#[]⟩, .string ⟨#[]⟩, .string ⟨#[]⟩, .string s, .string ⟨#[]⟩, .string ⟨#[]⟩, .string ⟨#[]⟩, .string ⟨#[]⟩, .int .u8 0, .int .u32 0]
/-- A new tracker's cells. -/
def trkC (s : ByteArray) : Array Value := #[.string s, .string ⟨#[]⟩, .string ⟨#[]⟩, .int .i32 0, .int .i32 0, .int .i32 0, .int .i32 0, .bool true, .bool false, .bool true]
set_option maxHeartbeats 4000000 in
set_option maxRecDepth 1000000 in
theorem mltI (B : Nat) (s : ByteArray) (w : World) (h : w.heap[B]? = some (.cells (srcC s) 96 (0, 0))) :
    Calls Tryz.prog 78 #[.pointer (some ⟨B, 0, none⟩)] w fun e w' => e = .returned (.agg (trkC s)) ∧ w' = (w.alloc (.cells (trkC s) 119)).drew := by
  have hlt : B < w.heap.size := (Array.getElem?_eq_some_iff.1 h).1
  have c0 : w.cell? ⟨B, 0, none⟩ = some (.string ⟨#[]⟩) := by rw [Lib.cell_of_heap h]; rfl
  have c1 : w.cell? ⟨B, 1, none⟩ = some (.string ⟨#[]⟩) := by rw [Lib.cell_of_heap h]; rfl
  have c3 : w.cell? ⟨B, 3, none⟩ = some (.string s) := by rw [Lib.cell_of_heap h]; rfl
  clear h
  go_enter Tryz.func78, Tryz.ntmps78
  go_wp2_with fail
  go_region
  go_wp2_with fail
  refine bodyPost_ret (results_cell_row (P := Tryz.prog) rfl _ _ w.heap.size _ _ _ _ rfl (show (w.alloc (.cells (trkC s) 119)).heap[w.heap.size]? = _ from heap_alloc_new w _) Tryz.underlying119 rfl infoTrk) rfl ?_
  exact ⟨rfl, rfl⟩
theorem log_heap (w : World) (o1 : Obj) (L : Array Value) (T : TypeId) (o2 o3 o4 : Obj) : (((((w.alloc o1).alloc (.cells L T)).alloc o2).alloc o3).alloc o4).heap[w.heap.size + 1]? = some (.cells L T (0, 0)) := by
  rw [Below.heap_alloc _ _ _ (by simp), Below.heap_alloc _ _ _ (by simp), Below.heap_alloc _ _ _ (by simp)]
  have h := heap_alloc_new (w.alloc o1) (.cells L T)
  rw [show (w.alloc o1).heap.size = w.heap.size + 1 by simp] at h
  exact h
set_option maxHeartbeats 4000000 in
set_option maxRecDepth 1000000 in
theorem ndlI (w : World) :
    Calls Tryz.prog 59 #[.int .u8 0, .map none] w fun e w' => ∃ g1 g2 g3 g4 c1 c2 c3 c4, e = .returned (.agg #[.func g1 #[] c1, .func g2 #[] c2, .func g3 #[] c3, .func g4 #[] c4, .int .i8 3, .map none]) ∧ Below w.heap.size w w' := by
  have hmf : ∀ (fn : Fn) (first cap : Array Value) (w : World), (Instr.makeFunc fn first cap).run Tryz.prog w = .ok (.func fn first cap) w := fun _ _ _ _ => rfl
  go_enter Tryz.func59, Tryz.ntmps59
  go_wp2_with fail
  refine bodyPost_ret (results_cell_row (P := Tryz.prog) rfl _ _ (w.heap.size + 1) _ _ _ _ rfl (log_heap w _ _ _ _ _ _) Tryz.underlying83 rfl infoLog) rfl ?_
  exact ⟨_, _, _, _, _, _, _, _, rfl, (((((Below.refl _ _).alloc (Nat.le_refl _) _).alloc (by simp) _).alloc (by simp; omega) _).alloc (by simp; omega) _).alloc (by simp; omega) _⟩
theorem wrap_u16 {n : Nat} (h : n ≤ 65535) : IntKind.u16.wrap (n : Int) = (n : Int) := by
  show ((n : Int) % 65536) = n
  omega
theorem LR.grown {b : Nat} {P : Nat → Option Value} {s : ByteArray} {r : List UInt8} {st : Nat} {uo kd fl : Int} {w w' : World} {row : Option Nat} (h : LR b P s r st uo kd fl w) (g : w.grownBy w' row) (hr : ∀ k, row = some k → b < k) : LR b P s r st uo kd fl w' := by
  have hlt := h.lt
  obtain ⟨⟨w0, h0, hs0, hb0⟩, hP, hs, k, n, hA, hst, hn, hL⟩ := h
  refine ⟨⟨w0, h0, hs0, hb0.grown g hb0.size (fun k hk => by have := hr k hk; omega)⟩, hP, hs, k, n, hA, hst, hn, hL.of (g.block b hlt ?_)⟩
  intro e
  have := hr b e.symm
  omega
theorem rowFr {w w' : World} {base : Nat} {e : TypeId} {size : Nat} {v : Value} {n : Nat} {xs : List Value} {b : Nat} (h : w.ownsRow base e size v n xs) (f : Fr b w w') (hb : b < base) : w'.ownsRow base e size v n xs := by
  refine ⟨h.1, ?_⟩
  rcases h.2 with hn | ⟨g, cap, cur, rfl, hg, hgg, rest⟩
  · exact .inl hn
  · refine .inr ⟨g, cap, cur, rfl, hg, ?_, rest⟩
    rw [f.block g (Array.getElem?_eq_some_iff.1 hgg).1 (by omega)]
    exact hgg
theorem rowBase {w : World} {base base2 : Nat} {e : TypeId} {size : Nat} {v : Value} {n : Nat} {xs : List Value} (h : w.ownsRow base e size v n xs) (hb : base2 ≤ base) : w.ownsRow base2 e size v n xs := by
  refine ⟨h.1, ?_⟩
  rcases h.2 with hn | ⟨g, cap, cur, rfl, hg, rest⟩
  · exact .inl hn
  · exact .inr ⟨g, cap, cur, rfl, by omega, rest⟩
theorem infoTokC : (Tryz.prog.info? 66).map (fun i => (i.zero, i.size, i.bytes)) = some (some (.agg #[.int .i32 0, .int .i32 0, .int .u16 0, .int .u8 0, .int .u8 0]), 5, 12) := by kernel_rfl
theorem infoResC : (Tryz.prog.info? 59).map (·.size) = some 7 := by kernel_rfl
theorem parts_of {P : Program} {t : TypeId} {z : Value} {n m : Nat} (h : (P.info? t).map (fun i => (i.zero, i.size, i.bytes)) = some (some z, n, m)) : ∃ i, P.info? t = some i ∧ i.zero = some z ∧ i.size = n ∧ i.bytes = m := by
  cases hq : P.info? t with
  | none => rw [hq] at h; cases h
  | some i => rw [hq] at h; simp only [Option.map_some, Option.some.injEq, Prod.mk.injEq] at h; exact ⟨i, rfl, h.1, h.2.1, h.2.2⟩
theorem rowForm {w : World} {base : Nat} {e : TypeId} {size : Nat} {v : Value} {n : Nat} {xs : List Value} (h : w.ownsRow base e size v n xs) : ∃ a c, v = .slice a n c := by
  rcases h.2 with ⟨rfl, rfl⟩ | ⟨g, cap, cur, rfl, _⟩
  · exact ⟨none, 0, rfl⟩
  · exact ⟨_, _, rfl⟩
theorem rowSet {w : World} {base : Nat} {e : TypeId} {size : Nat} {v : Value} {n : Nat} {xs : List Value} (h : w.ownsRow base e size v n xs) {H : Nat} (hb : H < base) (cs : Array Value) : (w.setRow H cs).ownsRow base e size v n xs := by
  refine ⟨h.1, ?_⟩
  rcases h.2 with hn | ⟨g, cap, cur, rfl, hg, hgg, rest⟩
  · exact .inl hn
  · refine .inr ⟨g, cap, cur, rfl, hg, ?_, rest⟩
    rw [setRow_other w H g cs (by omega)]
    exact hgg
/-- A new lexer's cells. -/
def lexC (s : ByteArray) (g1 g2 g3 g4 : Fn) (x1 x2 x3 x4 : Array Value) : Array Value := ((.bool true :: .func g1 #[] x1 :: .func g2 #[] x2 :: .func g3 #[] x3 :: .func g4 #[] x4 :: .int .i8 3 :: .map none :: .string ⟨#[]⟩ :: .string ⟨#[]⟩ :: .string ⟨#[]⟩ :: .string s :: .string ⟨#[]⟩ :: .string ⟨#[]⟩ :: .string ⟨#[]⟩ :: .string ⟨#[]⟩ :: .int .u8 0 :: .int .u32 0 :: .slice none 0 0 :: .slice none 0 0 :: .string ⟨#[]⟩ :: .int .i32 0 :: .int .i32 0 :: .string s :: .string ⟨#[]⟩ :: .string ⟨#[]⟩ :: .int .i32 0 :: .int .i32 0 :: .int .i32 0 :: .int .i32 0 :: .bool true :: .bool false :: .bool true :: .int .i64 0 :: .int .i64 0 :: .int .i32 0 :: .int .i32 0 :: .int .i32 0 :: .int .i32 0 :: .int .u16 0 :: .int .u8 0 :: .int .u8 0 :: [] : List Value).toArray)
/-- The lexer has been made. -/
def TokS (s : ByteArray) (g1 g2 g3 g4 : Fn) (x1 x2 x3 x4 : Array Value) (w0 : World) (v : Value) (wx : World) : Prop :=
  ∃ b, v = .pointer (some ⟨b, 0, none⟩) ∧ w0.heap.size ≤ b ∧ wx.heap[b]? = some (.cells (lexC s g1 g2 g3 g4 x1 x2 x3 x4) 123 (0, 0)) ∧ Below w0.heap.size w0 wx
theorem heap4_0 (w : World) (L : Array Value) (T : TypeId) (o2 o3 o4 : Obj) : ((((w.alloc (.cells L T)).alloc o2).alloc o3).alloc o4).heap[w.heap.size]? = some (.cells L T (0, 0)) := by
  rw [Below.heap_alloc _ _ _ (by simp; omega), Below.heap_alloc _ _ _ (by simp; omega), Below.heap_alloc _ _ _ (by simp)]
  exact heap_alloc_new w _
theorem heap4_1 (w : World) (o1 : Obj) (L : Array Value) (T : TypeId) (o3 o4 : Obj) : ((((w.alloc o1).alloc (.cells L T)).alloc o3).alloc o4).heap[w.heap.size + 1]? = some (.cells L T (0, 0)) := by
  rw [Below.heap_alloc _ _ _ (by simp), Below.heap_alloc _ _ _ (by simp)]
  have h := heap_alloc_new (w.alloc o1) (.cells L T)
  rw [show (w.alloc o1).heap.size = w.heap.size + 1 by simp] at h
  exact h
theorem heap4_2 (w : World) (o1 o2 : Obj) (L : Array Value) (T : TypeId) (o4 : Obj) : ((((w.alloc o1).alloc o2).alloc (.cells L T)).alloc o4).heap[w.heap.size + 1 + 1]? = some (.cells L T (0, 0)) := by
  rw [Below.heap_alloc _ _ _ (by simp)]
  have h := heap_alloc_new ((w.alloc o1).alloc o2) (.cells L T)
  rw [show ((w.alloc o1).alloc o2).heap.size = w.heap.size + 1 + 1 by simp] at h
  exact h
theorem heap4_3 (w : World) (o1 o2 o3 : Obj) (L : Array Value) (T : TypeId) : ((((w.alloc o1).alloc o2).alloc o3).alloc (.cells L T)).heap[w.heap.size + 1 + 1 + 1]? = some (.cells L T (0, 0)) := by
  have h := heap_alloc_new (((w.alloc o1).alloc o2).alloc o3) (.cells L T)
  rw [show (((w.alloc o1).alloc o2).alloc o3).heap.size = w.heap.size + 1 + 1 + 1 by simp] at h
  exact h
theorem below_le0 {B B2 : Nat} {w w1 : World} (h : Below B w w1) (hb : B2 ≤ B) : Below B2 w w1 := ⟨h.os, h.tape, h.output, h.size, fun k hk => h.block k (by omega)⟩
theorem infoLogT : (Tryz.prog.info? 83).map (·.size) = some 6 := by kernel_rfl
theorem infoSrcT : (Tryz.prog.info? 96).map (·.size) = some 10 := by kernel_rfl
theorem infoOptT : (Tryz.prog.info? 98).map (·.size) = some 1 := by kernel_rfl
theorem infoLexT : (Tryz.prog.info? 123).map (·.size) = some 41 := by kernel_rfl
theorem loadBlk {P : Program} (w : World) (g : Nat) (t ty : TypeId) (cs : Array Value) (fr : Nat × Nat) (d : TypeDesc) (hg : w.heap[g]? = some (.cells cs t fr))
    (hu : P.underlying ty = some d) (hd : (match d with | .struct _ | .array _ _ => true | _ => false) = true) (hi : (P.info? ty).map (·.size) = some cs.size) :
    (Instr.loadAt ty (.pointer (some ⟨g, 0, none⟩))).run P w = .ok (.agg cs) w := by
  simp only [Instr.loadAt, Instr.sureAddr, Sem.run_bind, Sem.run_pure, Result.andThen_ok, run_loadVar_row w g t ty cs fr d hg hu hd hi]
theorem storeBlk {P : Program} (w : World) (g : Nat) (t ty : TypeId) (old cells : Array Value) (hg : w.heap[g]? = some (.cells old t (0, 0))) (hi : (P.info? ty).map (·.size) = some cells.size)
    (ho : old.size = cells.size) (h1 : cells.all (·.oneCell') = true) :
    (Instr.storeAt ty (.pointer (some ⟨g, 0, none⟩)) (.agg cells)).run P w = .ok () (w.setRow g cells) := by
  simp only [Instr.storeAt, Instr.sureAddr, Sem.run_bind, Sem.run_pure, Result.andThen_ok, run_storeVar_row w g t ty old cells hg hi ho h1]
theorem runBuild {P : Program} {op : Oper} {a : Act} (w : World) (t : TypeId) (parts : Array (Nat × Operand)) (ho : op.op = .build t parts) (cells : Array Value) (hc : P.built t (parts.map fun (i, x) => (i, a.eval x)).toList = some cells) : (execOp a.eval op).run P w = .ok (.value (.agg cells)) w := by
  unfold execOp
  simp only [ho, Sem.run_bind, run_build w t _ cells hc, Result.andThen_ok]
  rfl
theorem yieldsBlk {P : Program} {ops : Array Oper} {S : World → Prop} {op : Oper} {a : Act} (hw : Region.wanted op (yielded ops a.tmps) = true) (ty : TypeId) (x : Operand) (ho : op.op = .load ty x)
    (b : Nat) (hx : a.eval x = .pointer (some ⟨b, 0, none⟩)) (t : TypeId) (cs : Array Value) (fr : Nat × Nat) (d : TypeDesc) (hS : ∀ w, S w → w.heap[b]? = some (.cells cs t fr))
    (hu : P.underlying ty = some d) (hd : (match d with | .struct _ | .array _ _ => true | _ => false) = true) (hi : (P.info? ty).map (·.size) = some cs.size) : YieldsIf P ops S op (.agg cs) a :=
  .inl ⟨hw, fun w hw' => by
    unfold execOp
    simp only [ho, hx, Instr.loadAt, Instr.sureAddr, Sem.run_bind, Sem.run_pure, Result.andThen_ok, run_loadVar_row w b t ty cs fr d (hS w hw') hu hd hi]⟩
end Go.Proofs.YtmgkccnfhkcncaaGreatDoor
