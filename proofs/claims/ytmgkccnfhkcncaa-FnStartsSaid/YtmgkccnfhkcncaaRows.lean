/-
  No cell of these rows narrows 'for every input' (looked for: loops, veiled, ifaces, maps, wideKeys, modest, calm, conditions, laid).
  DERIVED. THE GIVEN ROWS OF THIS SEAT. 3 by the template 'for every input the law returns true; each argument reads behind the call as it read before'; 0 by the template 'total and deterministic' (their statements: YtmgkccnfhkcncaaTotals.lean).
  GIVEN WITH THE SEED: the statements are not yours to turn. If you find one false, say at which input.
  Laid BY PROGRAM, IN A SANDBOX (cutbox-rows.mjs): the forced cells as the released guide's own fill.sh prints them over the translation a41a63316a4d9afb… (all of the seat's roots in one cut). By AI agents, Wed Nov 11 2026. No macro, syntax, notation, axiom, sorry.
-/
import Derived.Test.YtmgkccnfhkcncaaChecked
import GoSem.Claim
import GoSem.ClaimJoined
import GoSem.ClaimMapViews
import Derived.JoinedTies
import Derived.KernelRfl
namespace Go.Proofs.Ytmgkccnfhkcncaa
/- THE CELL 'sum', in the pinned program and in every row, IS THE sha256 OF THE DUMP (.gsa) THAT YtmgkccnfhkcncaaProg.lean LOADS. Nothing in Lean hashes anything: it is a label: what it is worth is what the hold of that sum in a sandbox is worth. -/
noncomputable def Try.pinned : Pinned := { name := "ytmgkccnfhkcncaa", sum := "a41a63316a4d9afb0b9be6e304d42f595dfa0dacc21e4bb96a4d32254f873a0a", checked := Try.checked }
namespace Rows
def none {H : Type} : Left H := { results := [], args := [] }

/-- 'laws.FnStarts': WHATEVER THE INPUT: true; the input reads as it did. -/
def fnStartsSpec : ChangeSpec := { name := "fnStarts", fn := fun _ => fun
  | [d] => { results := [.lit (.bool true)], args := [d] }
  | _ => none }
def fnStartsRow : OpenClaim := { program := "ytmgkccnfhkcncaa", sum := "a41a63316a4d9afb0b9be6e304d42f595dfa0dacc21e4bb96a4d32254f873a0a", func := "sheettokens/laws.FnStarts", spec := "fnStarts", apart := false }
def FnStartsSaid : Prop := fnStartsRow.holds Try.pinned (OpenSpec.ofChange fnStartsSpec)

/-- ITS FALSE NEIGHBOUR: 'it returns false'. Refute it at one input. -/
def fnStartsWrong : ChangeSpec := { name := "fnStarts", fn := fun _ => fun
  | [d] => { results := [.lit (.bool false)], args := [d] }
  | _ => none }
def FnStartsWrongFalsely : Prop := fnStartsRow.holds Try.pinned (OpenSpec.ofChange fnStartsWrong)

/-- 'laws.FnContinues': WHATEVER THE INPUT: true; the input reads as it did. -/
def fnContinuesSpec : ChangeSpec := { name := "fnContinues", fn := fun _ => fun
  | [d] => { results := [.lit (.bool true)], args := [d] }
  | _ => none }
def fnContinuesRow : OpenClaim := { program := "ytmgkccnfhkcncaa", sum := "a41a63316a4d9afb0b9be6e304d42f595dfa0dacc21e4bb96a4d32254f873a0a", func := "sheettokens/laws.FnContinues", spec := "fnContinues", apart := false }
def FnContinuesSaid : Prop := fnContinuesRow.holds Try.pinned (OpenSpec.ofChange fnContinuesSpec)

/-- ITS FALSE NEIGHBOUR: 'it returns false'. Refute it at one input. -/
def fnContinuesWrong : ChangeSpec := { name := "fnContinues", fn := fun _ => fun
  | [d] => { results := [.lit (.bool false)], args := [d] }
  | _ => none }
def FnContinuesWrongFalsely : Prop := fnContinuesRow.holds Try.pinned (OpenSpec.ofChange fnContinuesWrong)

/-- 'laws.FnNameContinues': WHATEVER THE INPUT: true; the input reads as it did. -/
def fnNameContinuesSpec : ChangeSpec := { name := "fnNameContinues", fn := fun _ => fun
  | [d] => { results := [.lit (.bool true)], args := [d] }
  | _ => none }
def fnNameContinuesRow : OpenClaim := { program := "ytmgkccnfhkcncaa", sum := "a41a63316a4d9afb0b9be6e304d42f595dfa0dacc21e4bb96a4d32254f873a0a", func := "sheettokens/laws.FnNameContinues", spec := "fnNameContinues", apart := false }
def FnNameContinuesSaid : Prop := fnNameContinuesRow.holds Try.pinned (OpenSpec.ofChange fnNameContinuesSpec)

/-- ITS FALSE NEIGHBOUR: 'it returns false'. Refute it at one input. -/
def fnNameContinuesWrong : ChangeSpec := { name := "fnNameContinues", fn := fun _ => fun
  | [d] => { results := [.lit (.bool false)], args := [d] }
  | _ => none }
def FnNameContinuesWrongFalsely : Prop := fnNameContinuesRow.holds Try.pinned (OpenSpec.ofChange fnNameContinuesWrong)

/- THE SECOND FORM. 'bulk': how many values and letters a reading holds, each counted each time it is reached (what is shared counts as often as it is met; a slice's spare places count too). A statement '..UptoSaid' is the law's where the arguments, and the package variables that the reading takes, are together of bulk at most 1048576: NARROWER than '..Said'. Prove '..Said' where nothing that the law and all that it calls make is longer than what came in: it says more and counts as full. Else prove '..UptoSaid'. A law counts once. -/
mutual
def uptoBulk {H : Type} : DataW H → Nat
  | .lit (.string bytes) => bytes.length + 1
  | .lit _ => 1
  | .nil => 1
  | .ptr d => uptoBulk d + 1
  | .slice elems spare => uptoBulkAll elems + uptoBulkAll spare + 1
  | .agg parts => uptoBulkAll parts + 1
  | .iface _ d => uptoBulk d + 1
  | .map entries => uptoBulkEntries entries + 1
  | .held _ => 1
def uptoBulkAll {H : Type} : List (DataW H) → Nat
  | [] => 0
  | d :: r => uptoBulk d + uptoBulkAll r
def uptoBulkEntries {H : Type} : List (Lit × DataW H) → Nat
  | [] => 0
  | x :: r => uptoBulkEntry x + uptoBulkEntries r
def uptoBulkEntry {H : Type} : Lit × DataW H → Nat
  | (.string bytes, d) => bytes.length + uptoBulk d + 1
  | (_, d) => uptoBulk d + 1
 end
def uptoSmall : (H : Type) → List (DataW H) → Bool := fun _ ds => decide (uptoBulkAll ds ≤ 1048576)
def OpenSpec.upto (s : _root_.Go.ChangeSpec) : _root_.Go.OpenSpec := { _root_.Go.OpenSpec.ofChange s with cond := some uptoSmall }

/-- 'laws.FnStarts', WHERE WHAT IT READS IS OF BULK AT MOST 1048576: true; the input reads as it did. -/
def fnStartsUptoRow : OpenClaim := { program := "ytmgkccnfhkcncaa", sum := "a41a63316a4d9afb0b9be6e304d42f595dfa0dacc21e4bb96a4d32254f873a0a", func := "sheettokens/laws.FnStarts", spec := "fnStarts", apart := false, narrowed := true }
def FnStartsUptoSaid : Prop := fnStartsUptoRow.holds Try.pinned (OpenSpec.upto fnStartsSpec)

/-- 'laws.FnContinues', WHERE WHAT IT READS IS OF BULK AT MOST 1048576: true; the input reads as it did. -/
def fnContinuesUptoRow : OpenClaim := { program := "ytmgkccnfhkcncaa", sum := "a41a63316a4d9afb0b9be6e304d42f595dfa0dacc21e4bb96a4d32254f873a0a", func := "sheettokens/laws.FnContinues", spec := "fnContinues", apart := false, narrowed := true }
def FnContinuesUptoSaid : Prop := fnContinuesUptoRow.holds Try.pinned (OpenSpec.upto fnContinuesSpec)

/-- 'laws.FnNameContinues', WHERE WHAT IT READS IS OF BULK AT MOST 1048576: true; the input reads as it did. -/
def fnNameContinuesUptoRow : OpenClaim := { program := "ytmgkccnfhkcncaa", sum := "a41a63316a4d9afb0b9be6e304d42f595dfa0dacc21e4bb96a4d32254f873a0a", func := "sheettokens/laws.FnNameContinues", spec := "fnNameContinues", apart := false, narrowed := true }
def FnNameContinuesUptoSaid : Prop := fnNameContinuesUptoRow.holds Try.pinned (OpenSpec.upto fnNameContinuesSpec)

end Rows
end Go.Proofs.Ytmgkccnfhkcncaa
