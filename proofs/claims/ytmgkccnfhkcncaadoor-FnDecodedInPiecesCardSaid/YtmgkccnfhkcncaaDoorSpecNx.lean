/-
  The reference's lexer: the next token.
-/
import Derived.Test.YtmgkccnfhkcncaaDoorSpecNext
import Derived.Deep.DeepCutAuto
import Derived.Deep.CutBlock
namespace Go.Proofs.YtmgkccnfhkcncaaDoor
open Go.RowKit

theorem agg_ret (k : Tk) {k' : Tk} (h : k = k') : Ending.returned (.agg #[.int .i64 (k.kind : Int), .int .i64 0, .int .i64 0, .int .i64 (k.unit : Int), .bool k.id, .string (strOf k.text)]) = .returned (tkV k' 0 0) := by subst h; rfl

/-- The end of a function that hands a token back, where nothing was done since its zero token was made. -/
theorem tok_endN {fn : Func} {post : Ending → World → Prop} {a : Act} {w : World} {v0 v1 v2 v3 v4 v5 : Value} (hr : fn.results = #[.cell 2 29]) (hp : a.tmps.getD 2 undef = .pointer (some ⟨w.heap.size, 0, none⟩)) (hd : a.defers = [])
    (hpost : post (.returned (.agg #[v0, v1, v2, v3, v4, v5])) (w.alloc (.cells #[v0, v1, v2, v3, v4, v5] 29))) : bodyPost Tryd.prog fn post .ret a (w.alloc (.cells #[v0, v1, v2, v3, v4, v5] 29)) :=
  bodyPost_ret (results_cell_row (P := Tryd.prog) hr a.tmps _ w.heap.size _ _ _ _ hp (heap_alloc_new _ _) Tryd.underlying29 rfl infoTok) hd hpost

set_option maxHeartbeats 8000000 in
set_option maxRecDepth 100000 in
theorem nextL_nil (b : Nat) (s : ByteArray) (cv : Value) (o : Bool) (w : World) (h : SR b s [] cv o w) :
    Calls Tryd.prog 47 #[.pointer (some ⟨b, 0, none⟩)] w fun e w' => e = .returned (tkV ⟨0, 0, false, []⟩ 0 0) ∧ SR b s [] cv o w' ∧ Fr b w w' := by
  have hlt := h.lt
  have hR : w.heap.size ≠ b := by omega
  have H1 := Lib.hid (h.alloc (.cells #[.int .i64 0, .int .i64 0, .int .i64 0, .int .i64 0, .bool false, .string ⟨#[]⟩] 29))
  have Z0 := Lib.hid (ZB.new w)
  have F0 := Lib.hid ((Fr.refl b w).alloc (.cells #[.int .i64 0, .int .i64 0, .int .i64 0, .int .i64 0, .bool false, .string ⟨#[]⟩] 29))
  go_enter Tryd.func47, Tryd.ntmps47
  go_wp2_with fail
  refine (peek0 b s [] cv o _ H1.out).mono ?_
  rintro e w' ⟨rfl, hww⟩
  first | (obtain rfl : _ = w' := hww) | (obtain rfl : _ = w' := hww.symm)
  go_wp2_with fail
  refine (peek1 b s [] cv o _ H1.out).mono ?_
  rintro e w' ⟨rfl, hww⟩
  first | (obtain rfl : _ = w' := hww) | (obtain rfl : _ = w' := hww.symm)
  go_wp2_with fail
  refine (peek2 b s [] cv o _ H1.out).mono ?_
  rintro e w' ⟨rfl, hww⟩
  first | (obtain rfl : _ = w' := hww) | (obtain rfl : _ = w' := hww.symm)
  rw [cpAt_nil, cpAt_nil, cpAt_nil]
  go_wp2_with fail
  refine tok_endN rfl rfl rfl ?_
  exact ⟨tk_ret rfl rfl rfl rfl rfl rfl, h.alloc _, (Fr.refl b w).alloc _⟩
end Go.Proofs.YtmgkccnfhkcncaaDoor
