/-
  Plain Lean: spaces, digits, how an identifier begins.
-/
import Derived.Test.YtmgkccnfhkcncaaGreatDoorMathE
import Derived.Test.YtmgkccnfhkcncaaGreatDoorChars
namespace Go.Proofs.YtmgkccnfhkcncaaGreatDoor
open Go

/-- What is left behind what is spaces. -/
def spS : List Nat → List Nat
  | [] => []
  | c :: t => if isWs c = true then spS t else c :: t
theorem spS_cons (c : Nat) (t : List Nat) : spS (c :: t) = if isWs c = true then spS t else c :: t := rfl
/-- What is left behind digits. -/
def dgS : List Nat → List Nat
  | [] => []
  | c :: t => if isDg c = true then dgS t else c :: t
theorem dgS_cons (c : Nat) (t : List Nat) : dgS (c :: t) = if isDg c = true then dgS t else c :: t := rfl
def identZ (a b c : Int) : Bool := if a = 45 then ssB b || decide (b = 45) || escZ b c else ssB a || escZ a b
theorem escZ_ok (c : Nat) (t : List Nat) : escZ (c : Int) (cpAt t 0) = decide (c = 92 ∧ escOk t = true) := by
  unfold escZ
  have e : (!nlB (cpAt t 0)) = escOk t := by
    cases t with
    | nil => rfl
    | cons d u => rw [cpAt_zero_cons, nl_nat]; rfl
  rw [e]
  by_cases h : c = 92
  · subst h
    cases escOk t <;> decide
  · rw [decide_eq_false (show ¬ ((c : Int) = 92) by omega), decide_eq_false (fun hh => h hh.1)]; rfl
theorem escS_none {c : Nat} (t : List Nat) (h : hexv c = none) : escS (c :: t) = (c, t, false) := by unfold escS; dsimp only; rw [h]
theorem escS_some {c x : Nat} (t : List Nat) (h : hexv c = some x) : escS (c :: t) = (fix (hexRunC 5 x t).1, (escTail (hexRunC 5 x t).2).1, (escTail (hexRunC 5 x t).2).2) := by unfold escS; dsimp only; rw [h]
theorem escS_nil : escS [] = (65533, [], true) := rfl
end Go.Proofs.YtmgkccnfhkcncaaGreatDoor
