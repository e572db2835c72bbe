/-
  css_lexer's lexer: how it is made: the log, the tracker. css_lexer's lexer: next over the tokens of a text that it tells nothing about. css_lexer's lexer: Tokenize, where next tells nothing and there is no comment and no whitespace. impl.tokenize: a log, a source, Tokenize.
-/
import Derived.Test.YtmgkccnfhkcncaaGreatDoorNxtE
import Derived.RegionTactic
import Derived.Laws.ResultCell
import Derived.Laws.EntriesVeiled
import Derived.Deep.AppendLies
import Derived.Outline
import Derived.Laws.CopyOwn
namespace Go.Proofs.YtmgkccnfhkcncaaGreatDoor
open Go.RowKit
attribute [local go_sem ↓] Go.wp_at_zero Go.wp_at_succ

theorem infoTrk : (Tryz.prog.info? 119).map (·.size) = some 10 := by kernel_rfl
theorem infoLog : (Tryz.prog.info? 83).map (·.size) = some 6 := by kernel_rfl
/-- A source's cells. -/
def srcC (s : ByteArray) : Array Value := #[.string ⟨#[]⟩, .string ⟨#[]⟩, .string ⟨#[]⟩, .string s, .string ⟨#[]⟩, .string ⟨#[]⟩, .string ⟨#[]⟩, .string ⟨#[]⟩, .int .u8 0, .int .u32 0]
/-- A new tracker's cells. -/
def trkC (s : ByteArray) : Array Value := #[.string s, .string ⟨#[]⟩, .string ⟨#[]⟩, .int .i32 0, .int .i32 0, .int .i32 0, .int .i32 0, .bool true, .bool false, .bool true]

set_option maxHeartbeats 4000000 in
set_option maxRecDepth 1000000 in
theorem mltI (B : Nat) (s : ByteArray) (w : World) (h : w.heap[B]? = some (.cells (srcC s) 96 (0, 0))) :
    Calls Tryz.prog 78 #[.pointer (some ⟨B, 0, none⟩)] w fun e w' => e = .returned (.agg (trkC s)) ∧ w' = (w.alloc (.cells (trkC s) 119)).drew := by
  have hlt : B < w.heap.size := (Array.getElem?_eq_some_iff.1 h).1
  have c0 : w.cell? ⟨B, 0, none⟩ = some (.string ⟨#[]⟩) := by rw [Lib.cell_of_heap h]; rfl
  have c1 : w.cell? ⟨B, 1, none⟩ = some (.string ⟨#[]⟩) := by rw [Lib.cell_of_heap h]; rfl
  have c3 : w.cell? ⟨B, 3, none⟩ = some (.string s) := by rw [Lib.cell_of_heap h]; rfl
  clear h
  go_enter Tryz.func78, Tryz.ntmps78
  go_wp2_with fail
  go_region
  go_wp2_with fail
  refine bodyPost_ret (results_cell_row (P := Tryz.prog) rfl _ _ w.heap.size _ _ _ _ rfl (show (w.alloc (.cells (trkC s) 119)).heap[w.heap.size]? = _ from heap_alloc_new w _) Tryz.underlying119 rfl infoTrk) rfl ?_
  exact ⟨rfl, rfl⟩
theorem log_heap (w : World) (o1 : Obj) (L : Array Value) (T : TypeId) (o2 o3 o4 : Obj) : (((((w.alloc o1).alloc (.cells L T)).alloc o2).alloc o3).alloc o4).heap[w.heap.size + 1]? = some (.cells L T (0, 0)) := by
  rw [Below.heap_alloc _ _ _ (by simp), Below.heap_alloc _ _ _ (by simp), Below.heap_alloc _ _ _ (by simp)]
  have h := heap_alloc_new (w.alloc o1) (.cells L T)
  rw [show (w.alloc o1).heap.size = w.heap.size + 1 by simp] at h
  exact h
set_option maxHeartbeats 4000000 in
set_option maxRecDepth 1000000 in
theorem ndlI (w : World) :
    Calls Tryz.prog 59 #[.int .u8 0, .map none] w fun e w' => ∃ g1 g2 g3 g4 c1 c2 c3 c4, e = .returned (.agg #[.func g1 #[] c1, .func g2 #[] c2, .func g3 #[] c3, .func g4 #[] c4, .int .i8 3, .map none]) ∧ Below w.heap.size w w' := by
  have hmf : ∀ (fn : Fn) (first cap : Array Value) (w : World), (Instr.makeFunc fn first cap).run Tryz.prog w = .ok (.func fn first cap) w := fun _ _ _ _ => rfl
  go_enter Tryz.func59, Tryz.ntmps59
  go_wp2_with fail
  refine bodyPost_ret (results_cell_row (P := Tryz.prog) rfl _ _ (w.heap.size + 1) _ _ _ _ rfl (log_heap w _ _ _ _ _ _) Tryz.underlying83 rfl infoLog) rfl ?_
  exact ⟨_, _, _, _, _, _, _, _, rfl, (((((Below.refl _ _).alloc (Nat.le_refl _) _).alloc (by simp) _).alloc (by simp; omega) _).alloc (by simp; omega) _).alloc (by simp; omega) _⟩
end Go.Proofs.YtmgkccnfhkcncaaGreatDoor

namespace Go.Proofs.YtmgkccnfhkcncaaGreatDoor
open Go.RowKit

/-- A token: its kind, unit, flags, where it is. -/
structure TkB where
  kd : Nat
  uo : Nat
  fl : Nat
  b : Nat
  e : Nat
/-- The tokens of what is left of a text of z bytes. -/
def TokB (z : Nat) : List TkB → List UInt8 → Prop
  | [], r => r = []
  | t :: ts, r => r ≠ [] ∧ t.kd ≠ 0 ∧ t.uo ≤ 65535 ∧ ∃ R, nxB r = some (t.kd, t.uo, t.fl, R) ∧ t.b + r.length = z ∧ t.e + R.length = z ∧ t.b < t.e ∧ TokB z ts R
def tkC (t : TkB) : List Value := [.int .i32 (t.b : Int), .int .i32 ((t.e : Int) - t.b), .int .u16 (t.uo : Int), .int .u8 (t.kd : Int), .int .u8 (t.fl : Int)]


/-- The lexer behind a call of next, rest being the tokens from the one that it stands at. -/
def NX (b : Nat) (P : Nat → Option Value) (s : ByteArray) (rest : List TkB) (w : World) : Prop :=
  match rest with
  | [] => LR b P s [] s.size 0 0 0 w
  | t :: ts => ∃ R, LR b P s R t.b (t.uo : Int) (t.kd : Int) (t.fl : Int) w ∧ AtB s t.e R ∧ TokB s.size ts R ∧ t.kd ≠ 0 ∧ t.b < t.e
theorem wrap_u16 {n : Nat} (h : n ≤ 65535) : IntKind.u16.wrap (n : Int) = (n : Int) := by
  show ((n : Int) % 65536) = n
  omega
theorem nextT (b : Nat) (P : Nat → Option Value) (s : ByteArray) (r : List UInt8) (st : Nat) (uo kd fl : Int) (rest : List TkB) (w : World) (h : LR b P s r st uo kd fl w) (ht : TokB s.size rest r) :
    Calls Tryz.prog 80 #[.pointer (some ⟨b, 0, none⟩)] w fun e w' => e = .returned (.tuple #[]) ∧ NX b P s rest w' ∧ Fr b w w' := by
  cases rest with
  | nil =>
    obtain rfl : r = [] := ht
    refine (nextE b P s st uo kd fl w h).mono ?_
    rintro e w' ⟨he, hL, hf⟩
    rw [show IntKind.u16.wrap ((0 : Nat) : Int) = 0 from rfl] at hL
    exact ⟨he, hL, hf⟩
  | cons t ts =>
    obtain ⟨hne, hkd, huo, R, hx, hb, he, hbe, hT⟩ := ht
    obtain ⟨k, hA, -⟩ := h.reads
    have hk : k = t.b := by have := hA.size; omega
    subst hk
    refine (nextI b P s r st uo kd fl _ R t.uo t.kd t.fl w h hA hx).mono ?_
    rintro e w' ⟨he', hL, hf⟩
    rw [wrap_u16 huo] at hL
    obtain ⟨k2, hA2, -⟩ := hL.reads
    have hk2 : k2 = t.e := by have := hA2.size; omega
    subst hk2
    exact ⟨he', ⟨R, hL, hA2, hT, hkd, hbe⟩, hf⟩
theorem LR.grown {b : Nat} {P : Nat → Option Value} {s : ByteArray} {r : List UInt8} {st : Nat} {uo kd fl : Int} {w w' : World} {row : Option Nat} (h : LR b P s r st uo kd fl w) (g : w.grownBy w' row) (hr : ∀ k, row = some k → b < k) : LR b P s r st uo kd fl w' := by
  have hlt := h.lt
  obtain ⟨⟨w0, h0, hs0, hb0⟩, hP, hs, k, n, hA, hst, hn, hL⟩ := h
  refine ⟨⟨w0, h0, hs0, hb0.grown g hb0.size (fun k hk => by have := hr k hk; omega)⟩, hP, hs, k, n, hA, hst, hn, hL.of (g.block b hlt ?_)⟩
  intro e
  have := hr b e.symm
  omega
theorem rowFr {w w' : World} {base : Nat} {e : TypeId} {size : Nat} {v : Value} {n : Nat} {xs : List Value} {b : Nat} (h : w.ownsRow base e size v n xs) (f : Fr b w w') (hb : b < base) : w'.ownsRow base e size v n xs := by
  refine ⟨h.1, ?_⟩
  rcases h.2 with hn | ⟨g, cap, cur, rfl, hg, hgg, rest⟩
  · exact .inl hn
  · refine .inr ⟨g, cap, cur, rfl, hg, ?_, rest⟩
    rw [f.block g (Array.getElem?_eq_some_iff.1 hgg).1 (by omega)]
    exact hgg
theorem rowBase {w : World} {base base2 : Nat} {e : TypeId} {size : Nat} {v : Value} {n : Nat} {xs : List Value} (h : w.ownsRow base e size v n xs) (hb : base2 ≤ base) : w.ownsRow base2 e size v n xs := by
  refine ⟨h.1, ?_⟩
  rcases h.2 with hn | ⟨g, cap, cur, rfl, hg, rest⟩
  · exact .inl hn
  · exact .inr ⟨g, cap, cur, rfl, by omega, rest⟩
theorem tkC_append (a : List TkB) (t : TkB) : (a ++ [t]).flatMap tkC = a.flatMap tkC ++ tkC t := by simp
theorem TokB_len : ∀ (z : Nat) (ts : List TkB) (r : List UInt8), TokB z ts r → ts.length ≤ r.length
  | _, [], _, _ => Nat.zero_le _
  | z, t :: ts, r, ⟨hne, hk, hu, R, hx, hb, he, hbe, hT⟩ => by
    have h1 := TokB_len z ts R hT
    simp only [List.length_cons]; omega
/-- Where the token begins that the lexer stands at. -/
def stOf (z : Nat) : List TkB → Nat
  | [] => z
  | t :: _ => t.b
theorem NX.c36 {b : Nat} {P : Nat → Option Value} {s : ByteArray} {rest : List TkB} {w : World} (h : NX b P s rest w) : w.cell? ⟨b, 36, none⟩ = some (.int .i32 (stOf s.size rest : Int)) := by
  cases rest with
  | nil =>
    obtain ⟨k, -, -, -, -, -, -, -, c, -⟩ := LR.reads h
    exact c
  | cons t ts =>
    obtain ⟨R, hL, -⟩ := h
    obtain ⟨k, -, -, -, -, -, -, -, c, -⟩ := hL.reads
    exact c
/-- The bytes from that token on. -/
def leftT (b z : Nat) (w : World) : Nat := match w.cell? ⟨b, 36, none⟩ with
  | some (.int _ v) => z - v.toNat
  | _ => 0
theorem NX.left {b : Nat} {P : Nat → Option Value} {s : ByteArray} {rest : List TkB} {w : World} (h : NX b P s rest w) : leftT b s.size w = s.size - stOf s.size rest := by
  unfold leftT
  rw [h.c36]
  simp
theorem stOf_next {s : ByteArray} {e : Nat} {R : List UInt8} {ts : List TkB} (hA : AtB s e R) (h : TokB s.size ts R) : stOf s.size ts = e := by
  have h1 := hA.size
  cases ts with
  | nil => obtain rfl : R = [] := h; simpa [stOf] using h1.symm
  | cons t ts => obtain ⟨_, _, _, _, _, hb, _⟩ := h; show t.b = e; omega
theorem infoTokC : (Tryz.prog.info? 66).map (fun i => (i.zero, i.size, i.bytes)) = some (some (.agg #[.int .i32 0, .int .i32 0, .int .u16 0, .int .u8 0, .int .u8 0]), 5, 12) := by kernel_rfl
theorem infoResC : (Tryz.prog.info? 59).map (·.size) = some 7 := by kernel_rfl
theorem parts_of {P : Program} {t : TypeId} {z : Value} {n m : Nat} (h : (P.info? t).map (fun i => (i.zero, i.size, i.bytes)) = some (some z, n, m)) : ∃ i, P.info? t = some i ∧ i.zero = some z ∧ i.size = n ∧ i.bytes = m := by
  cases hq : P.info? t with
  | none => rw [hq] at h; cases h
  | some i => rw [hq] at h; simp only [Option.map_some, Option.some.injEq, Prod.mk.injEq] at h; exact ⟨i, rfl, h.1, h.2.1, h.2.2⟩
theorem rowForm {w : World} {base : Nat} {e : TypeId} {size : Nat} {v : Value} {n : Nat} {xs : List Value} (h : w.ownsRow base e size v n xs) : ∃ a c, v = .slice a n c := by
  rcases h.2 with ⟨rfl, rfl⟩ | ⟨g, cap, cur, rfl, _⟩
  · exact ⟨none, 0, rfl⟩
  · exact ⟨_, _, rfl⟩
theorem rowSet {w : World} {base : Nat} {e : TypeId} {size : Nat} {v : Value} {n : Nat} {xs : List Value} (h : w.ownsRow base e size v n xs) {H : Nat} (hb : H < base) (cs : Array Value) : (w.setRow H cs).ownsRow base e size v n xs := by
  refine ⟨h.1, ?_⟩
  rcases h.2 with hn | ⟨g, cap, cur, rfl, hg, hgg, rest⟩
  · exact .inl hn
  · refine .inr ⟨g, cap, cur, rfl, hg, ?_, rest⟩
    rw [setRow_other w H g cs (by omega)]
    exact hgg
/-- The loop of Tokenize: what is done, what is still to come. -/
def TkRel (b : Nat) (P : Nat → Option Value) (s : ByteArray) (toks : List TkB) (W : World) (H : Nat) (ov : Value) (w : World) : Prop :=
  ∃ acc rest, toks = acc ++ rest ∧ w.ownsRow (b + 1) 66 5 ov acc.length (acc.flatMap tkC) ∧ NX b P s rest w ∧ Below W.heap.size W w ∧ w.heap[H]? = some (.cells #[.slice none 0 0, .slice none 0 0, .slice none 0 0, .string ⟨#[]⟩, .int .i32 0, .int .i32 0, .int .i32 0] 59 (0, 0))
end Go.Proofs.YtmgkccnfhkcncaaGreatDoor

namespace Go.Proofs.YtmgkccnfhkcncaaGreatDoor
open Go.RowKit
attribute [local go_sem ↓] Go.wp_at_zero Go.wp_at_succ

/-- A new lexer's cells. -/
def lexC (s : ByteArray) (g1 g2 g3 g4 : Fn) (x1 x2 x3 x4 : Array Value) : Array Value := ((.bool true :: .func g1 #[] x1 :: .func g2 #[] x2 :: .func g3 #[] x3 :: .func g4 #[] x4 :: .int .i8 3 :: .map none :: .string ⟨#[]⟩ :: .string ⟨#[]⟩ :: .string ⟨#[]⟩ :: .string s :: .string ⟨#[]⟩ :: .string ⟨#[]⟩ :: .string ⟨#[]⟩ :: .string ⟨#[]⟩ :: .int .u8 0 :: .int .u32 0 :: .slice none 0 0 :: .slice none 0 0 :: .string ⟨#[]⟩ :: .int .i32 0 :: .int .i32 0 :: .string s :: .string ⟨#[]⟩ :: .string ⟨#[]⟩ :: .int .i32 0 :: .int .i32 0 :: .int .i32 0 :: .int .i32 0 :: .bool true :: .bool false :: .bool true :: .int .i64 0 :: .int .i64 0 :: .int .i32 0 :: .int .i32 0 :: .int .i32 0 :: .int .i32 0 :: .int .u16 0 :: .int .u8 0 :: .int .u8 0 :: [] : List Value).toArray)
/-- The lexer has been made. -/
def TokS (s : ByteArray) (g1 g2 g3 g4 : Fn) (x1 x2 x3 x4 : Array Value) (w0 : World) (v : Value) (wx : World) : Prop :=
  ∃ b, v = .pointer (some ⟨b, 0, none⟩) ∧ w0.heap.size ≤ b ∧ wx.heap[b]? = some (.cells (lexC s g1 g2 g3 g4 x1 x2 x3 x4) 123 (0, 0)) ∧ Below w0.heap.size w0 wx
theorem heap4_0 (w : World) (L : Array Value) (T : TypeId) (o2 o3 o4 : Obj) : ((((w.alloc (.cells L T)).alloc o2).alloc o3).alloc o4).heap[w.heap.size]? = some (.cells L T (0, 0)) := by
  rw [Below.heap_alloc _ _ _ (by simp; omega), Below.heap_alloc _ _ _ (by simp; omega), Below.heap_alloc _ _ _ (by simp)]
  exact heap_alloc_new w _
theorem heap4_1 (w : World) (o1 : Obj) (L : Array Value) (T : TypeId) (o3 o4 : Obj) : ((((w.alloc o1).alloc (.cells L T)).alloc o3).alloc o4).heap[w.heap.size + 1]? = some (.cells L T (0, 0)) := by
  rw [Below.heap_alloc _ _ _ (by simp), Below.heap_alloc _ _ _ (by simp)]
  have h := heap_alloc_new (w.alloc o1) (.cells L T)
  rw [show (w.alloc o1).heap.size = w.heap.size + 1 by simp] at h
  exact h
theorem heap4_2 (w : World) (o1 o2 : Obj) (L : Array Value) (T : TypeId) (o4 : Obj) : ((((w.alloc o1).alloc o2).alloc (.cells L T)).alloc o4).heap[w.heap.size + 1 + 1]? = some (.cells L T (0, 0)) := by
  rw [Below.heap_alloc _ _ _ (by simp)]
  have h := heap_alloc_new ((w.alloc o1).alloc o2) (.cells L T)
  rw [show ((w.alloc o1).alloc o2).heap.size = w.heap.size + 1 + 1 by simp] at h
  exact h
theorem heap4_3 (w : World) (o1 o2 o3 : Obj) (L : Array Value) (T : TypeId) : ((((w.alloc o1).alloc o2).alloc o3).alloc (.cells L T)).heap[w.heap.size + 1 + 1 + 1]? = some (.cells L T (0, 0)) := by
  have h := heap_alloc_new (((w.alloc o1).alloc o2).alloc o3) (.cells L T)
  rw [show (((w.alloc o1).alloc o2).alloc o3).heap.size = w.heap.size + 1 + 1 + 1 by simp] at h
  exact h

theorem below_le0 {B B2 : Nat} {w w1 : World} (h : Below B w w1) (hb : B2 ≤ B) : Below B2 w w1 := ⟨h.os, h.tape, h.output, h.size, fun k hk => h.block k (by omega)⟩
theorem infoLogT : (Tryz.prog.info? 83).map (·.size) = some 6 := by kernel_rfl
theorem infoSrcT : (Tryz.prog.info? 96).map (·.size) = some 10 := by kernel_rfl
theorem infoOptT : (Tryz.prog.info? 98).map (·.size) = some 1 := by kernel_rfl
theorem infoLexT : (Tryz.prog.info? 123).map (·.size) = some 41 := by kernel_rfl
theorem loadBlk {P : Program} (w : World) (g : Nat) (t ty : TypeId) (cs : Array Value) (fr : Nat × Nat) (d : TypeDesc) (hg : w.heap[g]? = some (.cells cs t fr))
    (hu : P.underlying ty = some d) (hd : (match d with | .struct _ | .array _ _ => true | _ => false) = true) (hi : (P.info? ty).map (·.size) = some cs.size) :
    (Instr.loadAt ty (.pointer (some ⟨g, 0, none⟩))).run P w = .ok (.agg cs) w := by
  simp only [Instr.loadAt, Instr.sureAddr, Sem.run_bind, Sem.run_pure, Result.andThen_ok, run_loadVar_row w g t ty cs fr d hg hu hd hi]
theorem storeBlk {P : Program} (w : World) (g : Nat) (t ty : TypeId) (old cells : Array Value) (hg : w.heap[g]? = some (.cells old t (0, 0))) (hi : (P.info? ty).map (·.size) = some cells.size)
    (ho : old.size = cells.size) (h1 : cells.all (·.oneCell') = true) :
    (Instr.storeAt ty (.pointer (some ⟨g, 0, none⟩)) (.agg cells)).run P w = .ok () (w.setRow g cells) := by
  simp only [Instr.storeAt, Instr.sureAddr, Sem.run_bind, Sem.run_pure, Result.andThen_ok, run_storeVar_row w g t ty old cells hg hi ho h1]

theorem runBuild {P : Program} {op : Oper} {a : Act} (w : World) (t : TypeId) (parts : Array (Nat × Operand)) (ho : op.op = .build t parts) (cells : Array Value) (hc : P.built t (parts.map fun (i, x) => (i, a.eval x)).toList = some cells) : (execOp a.eval op).run P w = .ok (.value (.agg cells)) w := by
  unfold execOp
  simp only [ho, Sem.run_bind, run_build w t _ cells hc, Result.andThen_ok]
  rfl
theorem yieldsBlk {P : Program} {ops : Array Oper} {S : World → Prop} {op : Oper} {a : Act} (hw : Region.wanted op (yielded ops a.tmps) = true) (ty : TypeId) (x : Operand) (ho : op.op = .load ty x)
    (b : Nat) (hx : a.eval x = .pointer (some ⟨b, 0, none⟩)) (t : TypeId) (cs : Array Value) (fr : Nat × Nat) (d : TypeDesc) (hS : ∀ w, S w → w.heap[b]? = some (.cells cs t fr))
    (hu : P.underlying ty = some d) (hd : (match d with | .struct _ | .array _ _ => true | _ => false) = true) (hi : (P.info? ty).map (·.size) = some cs.size) : YieldsIf P ops S op (.agg cs) a :=
  .inl ⟨hw, fun w hw' => by
    unfold execOp
    simp only [ho, hx, Instr.loadAt, Instr.sureAddr, Sem.run_bind, Sem.run_pure, Result.andThen_ok, run_loadVar_row w b t ty cs fr d (hS w hw') hu hd hi]⟩

set_option maxHeartbeats 8000000 in
set_option maxRecDepth 1000000 in
theorem tokzI (s : ByteArray) (toks : List TkB) (g1 g2 g3 g4 : Fn) (x1 x2 x3 x4 : Array Value) (w : World) (hT : Lib.Utf8Tabs 0 1 w) (hs : s.size ≤ 1073741824) (hb : hdB s.data.toList ≠ 65279) (ht : TokB s.size toks s.data.toList) :
    Calls Tryz.prog 60 #[.agg #[.func g1 #[] x1, .func g2 #[] x2, .func g3 #[] x3, .func g4 #[] x4, .int .i8 3, .map none], .agg (srcC s), .agg #[.bool true]] w fun e w' => ∃ tv v, e = .returned (.agg #[tv, .slice none 0 0, .slice none 0 0, .string ⟨#[]⟩, .int .i32 0, .int .i32 0, .int .i32 v]) ∧ w'.ownsRow w.heap.size 66 5 tv toks.length (toks.flatMap tkC) ∧ Below w.heap.size w w' := by
  obtain ⟨i0, hi, hz0, hz1, hz2⟩ := parts_of infoTokC
  have T := Lib.hid hT
  have HB := Lib.hid hb
  have HT := Lib.hid ht
  clear hT hb ht
  unfold srcC
  go_enter Tryz.func60, Tryz.ntmps60
  go_upto_region 1 with fail
  obtain ⟨B, hB⟩ : ∃ B, w.heap.size = B := ⟨_, rfl⟩
  obtain ⟨w0, hw0⟩ : ∃ x, ((((w.alloc (.cells #[.func g1 #[] x1, .func g2 #[] x2, .func g3 #[] x3, .func g4 #[] x4, .int .i8 3, .map none] 83)).alloc (.cells #[.string ⟨#[]⟩, .string ⟨#[]⟩, .string ⟨#[]⟩, .string s, .string ⟨#[]⟩, .string ⟨#[]⟩, .string ⟨#[]⟩, .string ⟨#[]⟩, .int .u8 0, .int .u32 0] 96)).alloc (.cells #[.bool true] 98)).alloc (.cells #[.slice none 0 0, .slice none 0 0, .slice none 0 0, .string ⟨#[]⟩, .int .i32 0, .int .i32 0, .int .i32 0] 59)) = x := ⟨_, rfl⟩
  have K0 := Lib.hid (show w0.heap[B]? = some (.cells #[.func g1 #[] x1, .func g2 #[] x2, .func g3 #[] x3, .func g4 #[] x4, .int .i8 3, .map none] 83 (0, 0)) by rw [← hw0, ← hB]; exact heap4_0 w _ _ _ _ _)
  have K1 := Lib.hid (show w0.heap[B + 1]? = some (.cells (srcC s) 96 (0, 0)) by rw [← hw0, ← hB]; exact heap4_1 w _ _ _ _ _)
  have K2 := Lib.hid (show w0.heap[B + 1 + 1]? = some (.cells #[.bool true] 98 (0, 0)) by rw [← hw0, ← hB]; exact heap4_2 w _ _ _ _ _)
  have K3 := Lib.hid (show w0.heap[B + 1 + 1 + 1]? = some (.cells #[.slice none 0 0, .slice none 0 0, .slice none 0 0, .string ⟨#[]⟩, .int .i32 0, .int .i32 0, .int .i32 0] 59 (0, 0)) by rw [← hw0, ← hB]; exact heap4_3 w _ _ _ _ _)
  have W0 := Lib.hid (show Below w.heap.size w w0 by rw [← hw0]; exact ((((Below.refl _ _).alloc (Nat.le_refl _) _).alloc (by simp) _).alloc (by simp; omega) _).alloc (by simp; omega) _)
  have Z0 := Lib.hid (show w0.heap.size = B + 4 by rw [← hw0, ← hB]; simp)
  rw [hw0, hB]
  have hBW := Lib.hid hB
  have l0 : B < w0.heap.size := by rw [Z0.out]; omega
  have l1 : B + 1 < w0.heap.size := by rw [Z0.out]; omega
  have l2 : B + 1 + 1 < w0.heap.size := by rw [Z0.out]; omega
  have MLT := Lib.hid (fun w1 (hw1 : Below w0.heap.size w0 w1) => mltI (B + 1) s w1 ((hw1.block _ l1).trans K1.out))
  clear hw0 hB
  go_cut [7] (fun v wx => TokS s g1 g2 g3 g4 x1 x2 x3 x4 w0 v wx)
  case first =>
    refine wp_region_noPanic ?_
    refine wp_region_held_drew (S := fun w' => Below w0.heap.size w0 w') (by kernel_rfl) (Below.drew (Below.refl _ _)) (fun hH => ?_)
    refine wpAnyH_take (i := 0) (oi := ?oi0) (v := .agg (#[.bool true])) ?hi0 (by kernel_rfl) (by kernel_rfl) (by kernel_rfl) ?hq0 ?hy0 hH ?re0
    case hi0 => simp only [List.getElem?_toArray, List.getElem?_cons_zero]; rfl
    case hq0 => exact fun _ _ _ h => h
    case hy0 => exact yieldsBlk (by rfl) 98 _ rfl (B + 1 + 1) rfl _ _ _ _ (fun w1 h1 => (h1.block _ l2).trans K2.out) Tryz.underlying98 rfl infoOptT
    case re0 =>
    try simp only [Act.put, List.setIfInBounds_toArray, List.set_cons_zero, List.set_cons_succ]
    refine wpAnyH_take (i := 1) (oi := ?oi1) (v := .agg (#[.func g1 #[] x1, .func g2 #[] x2, .func g3 #[] x3, .func g4 #[] x4, .int .i8 3, .map none])) ?hi1 (by kernel_rfl) (by kernel_rfl) (by kernel_rfl) ?hq1 ?hy1 hH ?re1
    case hi1 => simp only [List.getElem?_toArray, List.getElem?_cons_zero, List.getElem?_cons_succ]; rfl
    case hq1 => exact fun _ _ _ h => h
    case hy1 => exact yieldsBlk (by rfl) 83 _ rfl (B) rfl _ _ _ _ (fun w1 h1 => (h1.block _ l0).trans K0.out) Tryz.underlying83 rfl infoLogT
    case re1 =>
    try simp only [Act.put, List.setIfInBounds_toArray, List.set_cons_zero, List.set_cons_succ]
    refine wpAnyH_take (i := 2) (oi := ?oi2) (v := .agg (srcC s)) ?hi2 (by kernel_rfl) (by kernel_rfl) (by kernel_rfl) ?hq2 ?hy2 hH ?re2
    case hi2 => simp only [List.getElem?_toArray, List.getElem?_cons_zero, List.getElem?_cons_succ]; rfl
    case hq2 => exact fun _ _ _ h => h
    case hy2 => exact yieldsBlk (by rfl) 96 _ rfl (B + 1) rfl _ _ _ _ (fun w1 h1 => (h1.block _ l1).trans K1.out) Tryz.underlying96 rfl infoSrcT
    case re2 =>
    try simp only [Act.put, List.setIfInBounds_toArray, List.set_cons_zero, List.set_cons_succ]
    refine wpAnyH_ready (rs := [3, 5]) (by kernel_rfl) (by simp) ?_
    refine AllReadyH.cons (o := ?oA) ?hoA (fun K hK => ?hA) ?hsA
    case hoA => simp only [List.getElem?_toArray, List.getElem?_cons_zero, List.getElem?_cons_succ]; rfl
    case hA =>
      rw [if_pos (by rfl)]
      go_simp
      refine (MLT.out _ hH).mono ?_
      rintro e w1 ⟨rfl, rfl⟩
      have hA := Below.drew (Below.alloc hH hH.size (.cells (trkC s) 119))
      obtain ⟨wa, hwa⟩ : ∃ x, (w0.drew.alloc (.cells (trkC s) 119)).drew = x := ⟨_, rfl⟩
      rw [hwa] at hA ⊢
      refine hK.out _ _ hA (fun hH => ?_)
      clear hK K hwa hA
      try simp only [Act.put, List.setIfInBounds_toArray, List.set_cons_zero, List.set_cons_succ]
      refine wpAnyH_take (i := 4) (oi := ?oi4a) (v := .agg (lexC s g1 g2 g3 g4 x1 x2 x3 x4)) ?hi4a (by kernel_rfl) (by kernel_rfl) (by kernel_rfl) ?hq4a ?hy4a hH ?re4a
      case hi4a => simp only [List.getElem?_toArray, List.getElem?_cons_zero, List.getElem?_cons_succ]; rfl
      case hq4a => exact fun _ _ _ h => h
      case hy4a => exact .inl ⟨by rfl, fun w1 h1 => runBuild w1 _ _ rfl _ (by kernel_rfl)⟩
      case re4a =>
      try simp only [Act.put, List.setIfInBounds_toArray, List.set_cons_zero, List.set_cons_succ]
      refine wpAnyH_ready (rs := [5]) (by kernel_rfl) (by simp) ?_
      refine AllReadyH.cons (o := ?oB) ?hoB (fun K hK => ?hB) AllReadyH.nil
      case hoB => simp only [List.getElem?_toArray, List.getElem?_cons_zero, List.getElem?_cons_succ]; rfl
      case hB =>
      rw [if_pos (by rfl)]
      go_simp
      have hz := hH.size
      refine hK.out _ _ (Below.alloc hH hH.size _) (fun hH => ?_)
      clear hK K
      try simp only [Act.put, List.setIfInBounds_toArray, List.set_cons_zero, List.set_cons_succ]
      refine wpAnyH_ready (rs := [6]) (by kernel_rfl) (by simp) ?_
      refine AllReadyH.cons (o := ?oSa) ?hoSa (fun K hK => ?hSa) AllReadyH.nil
      case hoSa => simp only [List.getElem?_toArray, List.getElem?_cons_zero, List.getElem?_cons_succ]; rfl
      case hSa =>
      rw [if_pos (by rfl)]
      refine wp_store_row 123 _ _ rfl (wa.heap.size) (lexC s g1 g2 g3 g4 x1 x2 x3 x4) rfl rfl 123 _ (heap_alloc_new wa _) infoLexT rfl (by kernel_rfl) ?_
      refine hK.out _ _ (below_setRow hH (by exact hz) _) (fun hH2 => ?_)
      clear hK K
      try simp only [Act.put]
      refine wpAnyH_done (by kernel_rfl) ?_ _
      refine NoPanic.normal ?_
      go_wp2_with fail
      go_meet
      exact ⟨_, rfl, hz, setRow_heap _ _ _ _ _ _ (heap_alloc_new wa _), hH2⟩
    case hsA =>
      refine AllReadyH.cons (o := ?oC) ?hoC (fun K hK => ?hC) AllReadyH.nil
      case hoC => simp only [List.getElem?_toArray, List.getElem?_cons_zero, List.getElem?_cons_succ]; rfl
      case hC =>
      rw [if_pos (by rfl)]
      go_simp
      refine hK.out _ _ (Below.alloc hH hH.size _) (fun hH => ?_)
      clear hK K
      try simp only [Act.put, List.setIfInBounds_toArray, List.set_cons_zero, List.set_cons_succ]
      refine wpAnyH_ready (rs := [3]) (by kernel_rfl) (by simp) ?_
      refine AllReadyH.cons (o := ?oD) ?hoD (fun K hK => ?hD) AllReadyH.nil
      case hoD => simp only [List.getElem?_toArray, List.getElem?_cons_zero, List.getElem?_cons_succ]; rfl
      case hD =>
      rw [if_pos (by rfl)]
      go_simp
      refine (MLT.out _ hH).mono ?_
      rintro e w1 ⟨rfl, rfl⟩
      refine hK.out _ _ (Below.drew (Below.alloc hH hH.size _)) (fun hH => ?_)
      clear hK K
      try simp only [Act.put, List.setIfInBounds_toArray, List.set_cons_zero, List.set_cons_succ]
      refine wpAnyH_take (i := 4) (oi := ?oi4b) (v := .agg (lexC s g1 g2 g3 g4 x1 x2 x3 x4)) ?hi4b (by kernel_rfl) (by kernel_rfl) (by kernel_rfl) ?hq4b ?hy4b hH ?re4b
      case hi4b => simp only [List.getElem?_toArray, List.getElem?_cons_zero, List.getElem?_cons_succ]; rfl
      case hq4b => exact fun _ _ _ h => h
      case hy4b => exact .inl ⟨by rfl, fun w1 h1 => runBuild w1 _ _ rfl _ (by kernel_rfl)⟩
      case re4b =>
      try simp only [Act.put, List.setIfInBounds_toArray, List.set_cons_zero, List.set_cons_succ]
      refine wpAnyH_ready (rs := [6]) (by kernel_rfl) (by simp) ?_
      refine AllReadyH.cons (o := ?oSb) ?hoSb (fun K hK => ?hSb) AllReadyH.nil
      case hoSb => simp only [List.getElem?_toArray, List.getElem?_cons_zero, List.getElem?_cons_succ]; rfl
      case hSb =>
      rw [if_pos (by rfl)]
      refine wp_store_row 123 _ _ rfl (w0.heap.size) (lexC s g1 g2 g3 g4 x1 x2 x3 x4) rfl rfl 123 _ ((Below.heap_alloc _ _ _ (by simp)).trans (heap_alloc_new w0.drew _)) infoLexT rfl (by kernel_rfl) ?_
      refine hK.out _ _ (below_setRow hH (by exact Nat.le_refl _) _) (fun hH2 => ?_)
      clear hK K
      try simp only [Act.put]
      refine wpAnyH_done (by kernel_rfl) ?_ _
      refine NoPanic.normal ?_
      go_wp2_with fail
      go_meet
      exact ⟨_, rfl, Nat.le_refl _, setRow_heap _ _ _ _ _ _ ((Below.heap_alloc _ _ _ (by simp)).trans (heap_alloc_new w0.drew _)), hH2⟩
  case rest =>
    obtain ⟨b, rfl, hb0, hcb, hbw⟩ := hcut
    have hzz := Z0.out
    have hbB : B + 4 ≤ b := by omega
    have WB := Lib.hid (show Below w.heap.size w wc from W0.out.trans (below_le0 hbw (by have := W0.out.size; omega)))
    have HK3 := Lib.hid ((hbw.block _ (by omega)).trans K3.out)
    have hT : TB b wc := ⟨w, T.out, by rw [hBW.out]; omega, WB.out⟩
    have hL0 : LB b (fun i => (lexC s g1 g2 g3 g4 x1 x2 x3 x4)[i]?) (0 : Nat) (0 : Nat) 0 (0 : Nat) 0 0 0 0 wc := ⟨lexC s g1 g2 g3 g4 x1 x2 x3 x4, hcb, rfl, fun _ _ => rfl, rfl, rfl, rfl, rfl, rfl, rfl, rfl, rfl⟩
    obtain ⟨Pc, hPc⟩ : ∃ f : Nat → Option Value, (fun i => (lexC s g1 g2 g3 g4 x1 x2 x3 x4)[i]?) = f := ⟨_, rfl⟩
    have p10 : Pc 10 = some (.string s) := by rw [← hPc]; rfl
    have P18 := Lib.hid (show Pc 18 = some (.slice none 0 0) by rw [← hPc]; rfl)
    have P17 := Lib.hid (show Pc 17 = some (.slice none 0 0) by rw [← hPc]; rfl)
    have P19 := Lib.hid (show Pc 19 = some (.string ⟨#[]⟩) by rw [← hPc]; rfl)
    have P20 := Lib.hid (show Pc 20 = some (.int .i32 0) by rw [← hPc]; rfl)
    have P21 := Lib.hid (show Pc 21 = some (.int .i32 0) by rw [← hPc]; rfl)
    rw [hPc] at hL0
    have STEP := Lib.hid (stepR b Pc s s.data.toList 0 0 0 0 0 0 0 0 wc hT p10 hs ⟨List.drop_zero, Nat.zero_le _⟩ (Nat.le_refl _) (Nat.le_refl _) hL0)
    have hlb : w.heap.size < b := by rw [hBW.out]; omega
    have hzb : B + 3 < b := by omega
    have hlen := TokB_len _ _ _ HT.out
    have hss : s.data.toList.length = s.size := by simp
    clear hT hL0 hPc hcb hbw hzz p10
    go_wp2_with fail
    refine (STEP.out).mono ?_
    rintro e w1 ⟨rfl, hL1, f1⟩
    have t0 : (hdB s.data.toList == 65279) = false := beq_eq_false_iff_ne.2 HB.out
    have c35 := hL1.reads
    obtain ⟨-, -, -, -, -, -, -, c35, -, -⟩ := c35
    have NXT := Lib.hid (nextT b Pc s s.data.toList 0 0 0 0 toks w1 hL1 HT.out)
    have WB1 := Lib.hid (WB.out.trans (f1.below (by omega) WB.out.size))
    have HR1 := Lib.hid ((f1.block (B + 1 + 1 + 1) (by have := (Array.getElem?_eq_some_iff.1 HK3.out).1; omega) (by omega)).trans HK3.out)
    clear f1 hL1
    go_wp2_with fail
    refine (NXT.out).mono ?_
    rintro e w2 ⟨rfl, hN, f2⟩
    have START := Lib.hid (show TkRel b Pc s toks w (B + 1 + 1 + 1) (.slice none 0 0) w2 from ⟨[], toks, rfl, World.ownsRow_nil _ _ _ _, hN, WB1.out.trans (f2.below (by omega) WB1.out.size), (f2.block (B + 1 + 1 + 1) (by have := (Array.getElem?_eq_some_iff.1 HR1.out).1; omega) (by omega)).trans HR1.out⟩)
    have NE : ∀ wx : World, (binOp .neq 51 (.slice none 0 0) (.slice none 0 0)).run Tryz.prog wx = .ok (.bool false) wx := fun _ => by kernel_rfl
    clear hN f2 c35 t0
    go_wp2_with fail
    go_loopw [8, 9] (fun ov c9 wr => TkRel b Pc s toks w (B + 1 + 1 + 1) ov wr ∧ c9 = .slice none 0 0) (fun _ _ wr => leftT b s.size wr)
    case atStart => exact ⟨START.out, rfl⟩
    case round =>
      obtain ⟨⟨acc, rest, htk, hov, hN, hB, hH⟩, rfl⟩ := hrel
      clear START
      have HOV := Lib.hid hov
      have HBW := Lib.hid hB
      have HHH := Lib.hid hH
      have HTK := Lib.hid htk
      clear hov hB hH htk
      cases rest with
      | nil =>
        have HN := Lib.hid (show LR b Pc s [] s.size 0 0 0 _ from hN)
        clear hN
        obtain ⟨c39, c40⟩ := HN.out.c3940
        obtain ⟨_, _, _, kz, nz, _, _, hnz, hLz⟩ := HN.out
        have c32 := hLz.c.1
        have c17 := (hLz.p 17 (.inl (by omega))).trans P17.out
        have c18 := (hLz.p 18 (.inl (by omega))).trans P18.out
        have c19 := (hLz.p 19 (.inl (by omega))).trans P19.out
        have c20 := (hLz.p 20 (.inl (by omega))).trans P20.out
        have c21 := (hLz.p 21 (.inl (by omega))).trans P21.out
        clear hLz
        obtain ⟨oa, oc, rfl⟩ := rowForm HOV.out
        have q0 : wr.cell? ⟨B + 1 + 1 + 1, 0, none⟩ = some (.slice none 0 0) := by rw [Lib.cell_of_heap HHH.out]; rfl
        have z0 := Lib.frozen_of_heap HHH.out 0
        have q1 : wr.cell? ⟨B + 1 + 1 + 1, 1, none⟩ = some (.slice none 0 0) := by rw [Lib.cell_of_heap HHH.out]; rfl
        have z1 := Lib.frozen_of_heap HHH.out 1
        have q2 : wr.cell? ⟨B + 1 + 1 + 1, 2, none⟩ = some (.slice none 0 0) := by rw [Lib.cell_of_heap HHH.out]; rfl
        have z2 := Lib.frozen_of_heap HHH.out 2
        have q3 : wr.cell? ⟨B + 1 + 1 + 1, 3, none⟩ = some (.string ⟨#[]⟩) := by rw [Lib.cell_of_heap HHH.out]; rfl
        have z3 := Lib.frozen_of_heap HHH.out 3
        have q4 : wr.cell? ⟨B + 1 + 1 + 1, 4, none⟩ = some (.int .i32 0) := by rw [Lib.cell_of_heap HHH.out]; rfl
        have z4 := Lib.frozen_of_heap HHH.out 4
        have q5 : wr.cell? ⟨B + 1 + 1 + 1, 5, none⟩ = some (.int .i32 0) := by rw [Lib.cell_of_heap HHH.out]; rfl
        have z5 := Lib.frozen_of_heap HHH.out 5
        have q6 : wr.cell? ⟨B + 1 + 1 + 1, 6, none⟩ = some (.int .i32 0) := by rw [Lib.cell_of_heap HHH.out]; rfl
        have z6 := Lib.frozen_of_heap HHH.out 6
        go_wp2_with fail
        have hput := heap_put (heap_put (heap_put (heap_put (heap_put (heap_put (heap_put HHH.out 0 (.slice oa acc.length oc)) 1 (.slice none 0 0)) 2 (.slice none 0 0)) 3 (.string ⟨#[]⟩)) 4 (.int .i32 0)) 5 (.int .i32 0)) 6 (.int .i32 (wrap32 (wrap32 (nz : Int) + 1)))
        have hbe : w.heap.size ≤ B + 1 + 1 + 1 := by rw [hBW.out]; omega
        refine bodyPost_ret (results_cell_row (P := Tryz.prog) rfl _ _ (B + 1 + 1 + 1) _ #[.slice oa acc.length oc, .slice none 0 0, .slice none 0 0, .string ⟨#[]⟩, .int .i32 0, .int .i32 0, .int .i32 (wrap32 (wrap32 (nz : Int) + 1))] _ _ rfl hput Tryz.underlying59 rfl infoResC) rfl ?_
        have hH7 : B + 1 + 1 + 1 < b + 1 := by omega
        have hacc : toks = acc := by rw [HTK.out, List.append_nil]
        rw [hacc]
        refine ⟨_, _, rfl, rowBase (rowFr (rowFr (rowFr (rowFr (rowFr (rowFr (rowFr HOV.out (Fr.setCell _ _ _) hH7) (Fr.setCell _ _ _) hH7) (Fr.setCell _ _ _) hH7) (Fr.setCell _ _ _) hH7) (Fr.setCell _ _ _) hH7) (Fr.setCell _ _ _) hH7) (Fr.setCell _ _ _) hH7) (by omega), ?_⟩
        exact ((((((HBW.out.setCell (p := ⟨B + 1 + 1 + 1, _, none⟩) hbe _).setCell (p := ⟨B + 1 + 1 + 1, _, none⟩) hbe _).setCell (p := ⟨B + 1 + 1 + 1, _, none⟩) hbe _).setCell (p := ⟨B + 1 + 1 + 1, _, none⟩) hbe _).setCell (p := ⟨B + 1 + 1 + 1, _, none⟩) hbe _).setCell (p := ⟨B + 1 + 1 + 1, _, none⟩) hbe _).setCell (p := ⟨B + 1 + 1 + 1, _, none⟩) hbe _
      | cons t ts =>
        have HNX := Lib.hid hN
        obtain ⟨R, hL, hA, hT, hkd, hbe⟩ := hN
        have HL := Lib.hid hL
        have HA := Lib.hid hA
        have HTT := Lib.hid hT
        have HBE := Lib.hid hbe
        have t1 : ((t.kd : Int) == 0) = false := beq_eq_false_iff_ne.2 (by omega)
        obtain ⟨c39, c40⟩ := HL.out.c3940
        have c38 := HL.out.c38
        obtain ⟨k, hA2, -, -, -, -, -, -, c36, c37⟩ := HL.out.reads
        have hke : k = t.e := by have h1 := hA2.size; have h2 := hA.size; omega
        subst hke
        obtain ⟨_, _, _, kz, nz, _, _, hnz, hLz⟩ := HL.out
        have c18 := (hLz.p 18 (.inl (by omega))).trans P18.out
        have hlt := HL.out.lt
        have hal : acc.length + (t :: ts).length = toks.length := by rw [HTK.out]; simp
        rw [List.length_cons] at hal
        clear hLz hL hA hT hbe hA2 hkd
        go_wp2_with (at_builtin; refine wpList_append_lies _ rfl _ _ 49 rfl (b + 1) 66 i0 _ 5 12 Tryz.underlying49 hi hz0 hz1 hz2 rfl (by decide) _ acc.length (acc.flatMap tkC) rfl (HOV.out.alloc _) ⟨wr.heap.size, 0, none⟩ 1 1 (tkC t) rfl rfl (World.news_of_block (heap_alloc_new wr _)) (fun u hu => by simp [tkC] at hu; rcases hu with rfl | rfl | rfl | rfl | rfl <;> rfl) (by decide) (by unfold maxLen; omega) (by omega) (by simp; omega) (wr.heap.size + 1) (by simp) ?_; intro g cap w4 hown4 hgrow hat hlt4)
        have L4 := Lib.hid ((HL.out.fr ((Below.refl _ _).alloc (Nat.le_refl _) _)).grown hgrow (fun x hx => by have := (HOV.out.lt x hx).1; omega))
        have B4 := Lib.hid ((HBW.out.alloc HBW.out.size _).grown hgrow (by have := HBW.out.size; simp; omega) (fun x hx => by have := (HOV.out.lt x hx).1; omega))
        have H4 := Lib.hid ((hgrow.block (B + 1 + 1 + 1) (by simp; omega) (by intro e; have := (HOV.out.lt _ e.symm).1; omega)).trans ((Below.heap_alloc _ _ _ (by omega)).trans HHH.out))
        have OWN4 := Lib.hid hown4
        have NXT4 := Lib.hid (nextT b Pc s R t.b t.uo t.kd t.fl ts w4 L4.out HTT.out)
        have hlt4b := L4.out.lt
        clear hown4 hgrow hat hlt4 t1 c36 c37 c38 c39 c40 c18
        refine (NXT4.out).mono ?_
        rintro e w5 ⟨rfl, hN5, f5⟩
        have HN5 := Lib.hid hN5
        have F5 := Lib.hid f5
        clear hN5 f5
        go_wp2_with fail
        go_roundw
        case rel =>
          refine ⟨⟨acc ++ [t], ts, by rw [HTK.out]; simp, ?_, HN5.out, B4.out.trans (F5.out.below (by omega) B4.out.size), (F5.out.block (B + 1 + 1 + 1) (by omega) (by omega)).trans H4.out⟩, rfl⟩
          rw [List.length_append, tkC_append]
          exact rowFr OWN4.out F5.out (by omega)
        case measure =>
          rw [HN5.out.left, HNX.out.left, stOf_next HA.out HTT.out]
          have h1 := HA.out.le
          have h2 := HBE.out
          show s.size - t.e < s.size - t.b
          omega
end Go.Proofs.YtmgkccnfhkcncaaGreatDoor

namespace Go.Proofs.YtmgkccnfhkcncaaGreatDoor
open Go.RowKit
attribute [local go_sem ↓] Go.wp_at_zero Go.wp_at_succ

set_option maxHeartbeats 8000000 in
set_option maxRecDepth 1000000 in
theorem tokI (s : ByteArray) (toks : List TkB) (w : World) (hT : Lib.Utf8Tabs 0 1 w) (hs : s.size ≤ 1073741824) (hb : hdB s.data.toList ≠ 65279) (ht : TokB s.size toks s.data.toList) :
    Calls Tryz.prog 34 #[.string s] w fun e w' => ∃ tv v, e = .returned (.agg #[tv, .slice none 0 0, .slice none 0 0, .string ⟨#[]⟩, .int .i32 0, .int .i32 0, .int .i32 v]) ∧ w'.ownsRow w.heap.size 66 5 tv toks.length (toks.flatMap tkC) ∧ Below w.heap.size w w' := by
  have T := Lib.hid hT
  have TZ := Lib.hid (fun g1 g2 g3 g4 x1 x2 x3 x4 w hT => tokzI s toks g1 g2 g3 g4 x1 x2 x3 x4 w hT hs hb ht)
  have ND := Lib.hid (fun w => ndlI w)
  clear hT hb ht
  unfold srcC at TZ
  go_enter Tryz.func34, Tryz.ntmps34
  go_wp2_with fail
  refine (ND.out _).mono ?_
  rintro e w1 ⟨g1, g2, g3, g4, x1, x2, x3, x4, rfl, hb1⟩
  have B1 := Lib.hid (((Below.refl w.heap.size w).alloc (Nat.le_refl _) _).trans (below_le0 hb1 (by simp)))
  have hr := (hb1.block w.heap.size (by simp)).trans (heap_alloc_new w _)
  have HR := Lib.hid hr
  have hw1 : w.heap.size < w1.heap.size := by have := hb1.size; simp at this; omega
  clear hb1 hr
  go_wp2_with fail
  refine (TZ.out _ _ _ _ _ _ _ _ _ (Utf8Tabs_below T.out ((B1.out.alloc B1.out.size _)))).mono ?_
  rintro e w2 ⟨tv, v, rfl, hown, hb2⟩
  have B2 := Lib.hid ((B1.out.alloc B1.out.size (.cells #[.func g1 #[] x1, .func g2 #[] x2, .func g3 #[] x3, .func g4 #[] x4, .int .i8 3, .map none] 83)).trans (below_le0 hb2 (by have := B1.out.size; simp; omega)))
  have HR2 := Lib.hid ((hb2.block w.heap.size (by simp; omega)).trans ((Below.heap_alloc _ _ _ hw1).trans HR.out))
  have OWN := Lib.hid (rowBase (base2 := w.heap.size + 1) hown (by simp; omega))
  obtain ⟨oa, oc, rfl⟩ := rowForm hown
  clear hown hb2
  have q0 : w2.cell? ⟨w.heap.size, 0, none⟩ = some (.slice none 0 0) := by rw [Lib.cell_of_heap HR2.out]; rfl
  have z0 := Lib.frozen_of_heap HR2.out 0
  have q1 : w2.cell? ⟨w.heap.size, 1, none⟩ = some (.slice none 0 0) := by rw [Lib.cell_of_heap HR2.out]; rfl
  have z1 := Lib.frozen_of_heap HR2.out 1
  have q2 : w2.cell? ⟨w.heap.size, 2, none⟩ = some (.slice none 0 0) := by rw [Lib.cell_of_heap HR2.out]; rfl
  have z2 := Lib.frozen_of_heap HR2.out 2
  have q3 : w2.cell? ⟨w.heap.size, 3, none⟩ = some (.string ⟨#[]⟩) := by rw [Lib.cell_of_heap HR2.out]; rfl
  have z3 := Lib.frozen_of_heap HR2.out 3
  have q4 : w2.cell? ⟨w.heap.size, 4, none⟩ = some (.int .i32 0) := by rw [Lib.cell_of_heap HR2.out]; rfl
  have z4 := Lib.frozen_of_heap HR2.out 4
  have q5 : w2.cell? ⟨w.heap.size, 5, none⟩ = some (.int .i32 0) := by rw [Lib.cell_of_heap HR2.out]; rfl
  have z5 := Lib.frozen_of_heap HR2.out 5
  have q6 : w2.cell? ⟨w.heap.size, 6, none⟩ = some (.int .i32 0) := by rw [Lib.cell_of_heap HR2.out]; rfl
  have z6 := Lib.frozen_of_heap HR2.out 6
  go_wp2_with fail
  have hput := heap_put (heap_put (heap_put (heap_put (heap_put (heap_put (heap_put HR2.out 0 (.slice oa toks.length oc)) 1 (.slice none 0 0)) 2 (.slice none 0 0)) 3 (.string ⟨#[]⟩)) 4 (.int .i32 0)) 5 (.int .i32 0)) 6 (.int .i32 v)
  refine bodyPost_ret (results_cell_row (P := Tryz.prog) rfl _ _ w.heap.size _ #[.slice oa toks.length oc, .slice none 0 0, .slice none 0 0, .string ⟨#[]⟩, .int .i32 0, .int .i32 0, .int .i32 v] _ _ rfl hput Tryz.underlying59 rfl infoResC) rfl ?_
  have hH7 : w.heap.size < w.heap.size + 1 := by omega
  have hbe : w.heap.size ≤ w.heap.size := by omega
  refine ⟨_, _, rfl, rowBase (rowFr (rowFr (rowFr (rowFr (rowFr (rowFr (rowFr OWN.out (Fr.setCell _ _ _) hH7) (Fr.setCell _ _ _) hH7) (Fr.setCell _ _ _) hH7) (Fr.setCell _ _ _) hH7) (Fr.setCell _ _ _) hH7) (Fr.setCell _ _ _) hH7) (Fr.setCell _ _ _) hH7) (by omega), ?_⟩
  exact ((((((B2.out.setCell (p := ⟨w.heap.size, _, none⟩) hbe _).setCell (p := ⟨w.heap.size, _, none⟩) hbe _).setCell (p := ⟨w.heap.size, _, none⟩) hbe _).setCell (p := ⟨w.heap.size, _, none⟩) hbe _).setCell (p := ⟨w.heap.size, _, none⟩) hbe _).setCell (p := ⟨w.heap.size, _, none⟩) hbe _).setCell (p := ⟨w.heap.size, _, none⟩) hbe _
end Go.Proofs.YtmgkccnfhkcncaaGreatDoor
