/-
  PLAIN: the token's letters, by number; where the marks are found.
-/
import Derived.Lib.Bytealg
import Derived.Laws.Runes
import Derived.Laws.RangeAny
set_option linter.unusedSimpArgs false
set_option linter.unusedVariables false
namespace Go.Proofs.Qxb6600610a.Pl
open Go

/-- The marks: ! # $ % & ' * + - . ^ _ ` | ~ -/
def isMk (z : Int) : Bool := decide (z = 33 ∨ z = 35 ∨ z = 36 ∨ z = 37 ∨ z = 38 ∨ z = 39 ∨ z = 42 ∨ z = 43 ∨ z = 45 ∨ z = 46 ∨ z = 94 ∨ z = 95 ∨ z = 96 ∨ z = 124 ∨ z = 126)
/-- A letter, a digit or a isMk. -/
def isTok (z : Int) : Bool := decide ((97 ≤ z ∧ z ≤ 122) ∨ (65 ≤ z ∧ z ≤ 90) ∨ (48 ≤ z ∧ z ≤ 57)) || isMk z
def marksL : List UInt8 := [33, 35, 36, 37, 38, 39, 42, 43, 45, 46, 94, 95, 96, 124, 126]

theorem tok_mark {z : Int} (h : ¬ ((97 ≤ z ∧ z ≤ 122) ∨ (65 ≤ z ∧ z ≤ 90) ∨ (48 ≤ z ∧ z ≤ 57))) : isTok z = isMk z := by
  unfold isTok
  rw [decide_eq_false h, Bool.false_or]
theorem tok_alnum {z : Int} (h : (97 ≤ z ∧ z ≤ 122) ∨ (65 ≤ z ∧ z ≤ 90) ∨ (48 ≤ z ∧ z ≤ 57)) : isTok z = true := by
  unfold isTok
  rw [decide_eq_true h, Bool.true_or]
theorem mark_high {z : Int} (h : 128 ≤ z) : isMk z = false := decide_eq_false (by omega)
theorem tok_high {z : Int} (h : 128 ≤ z) : isTok z = false := by
  rw [tok_mark (by omega), mark_high h]

theorem mark_small : ∀ n : Nat, n < 128 → decide (0 ≤ Lib.indexByte marksL n.toUInt8) = isMk (n : Int) := by decide +kernel

/-- Every byte a token's. -/
def all (l : List UInt8) : Bool := l.all (fun b => isTok (b.toNat : Int))
theorem all_app (a b : List UInt8) : all (a ++ b) = (all a && all b) := by simp [all]
theorem all_one (b : UInt8) : all [b] = isTok (b.toNat : Int) := by simp [all]
end Go.Proofs.Qxb6600610a.Pl
