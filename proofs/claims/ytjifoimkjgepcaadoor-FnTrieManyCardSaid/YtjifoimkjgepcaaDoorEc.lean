/-
  The walk of laws.ordered.
-/
import Derived.Test.YtjifoimkjgepcaaDoorEb
import Derived.Test.YtjifoimkjgepcaaDoorGd
set_option linter.unusedVariables false
set_option linter.unusedSimpArgs false
namespace Go.Proofs.YtjifoimkjgepcaaDoor.Da
open Go.RowKit Go.Proofs.YtjifoimkjgepcaaDoor.K Go.Proofs.YtjifoimkjgepcaaDoorW.PrintWords

/-- A key stands where it may. -/
def OkAt (xs : List ByteArray) (st : Bool) (i : Nat) : Prop :=
  (kAt xs i).toList.isEmpty = false ∧ noZ (kAt xs i) ∧ (0 < i → ltB (kAt xs i) (kAt xs (i - 1)) = false ∧ (st = true → ((kAt xs i).toList == (kAt xs (i - 1)).toList) = false))
/-- Some bool is returned, and it tells p. -/
def BoolIff (p : Prop) (w : World) (e : Ending) (w' : World) : Prop := ∃ b : Bool, e = .returned (.bool b) ∧ (b = true ↔ p) ∧ Below w.heap.size w w'
def Ord (xs : List ByteArray) (st : Bool) : Prop := xs ≠ [] ∧ ∀ i, i < xs.length → OkAt xs st i
theorem upto_succ {p : Nat → Prop} {k : Nat} (h : ∀ i, i < k → p i) (hk : p k) : ∀ i, i < k + 1 → p i := by
  intro i hi
  by_cases e : i = k
  · subst e; exact hk
  · exact h i (by omega)
end Go.Proofs.YtjifoimkjgepcaaDoor.Da
