/-
  What a search of a double array finds, plain.
-/
import Derived.Test.YtjifoimkjgepcaaDoorDc
set_option linter.unusedVariables false
set_option linter.unusedSimpArgs false
namespace Go.Proofs.YtjifoimkjgepcaaDoor.Da

/-- The rests of keys behind a text. -/
def walkK : List Nat → Ks → Ks
  | [], ks => ks
  | a :: s, ks => walkK s (tails a ks)
theorem walkK_nil (s : List Nat) : walkK s [] = [] := by
  induction s with
  | nil => rfl
  | cons a s ih => exact ih
theorem walkK_append (s t : List Nat) (ks : Ks) : walkK (s ++ t) ks = walkK t (walkK s ks) := by
  induction s generalizing ks with
  | nil => rfl
  | cons a s ih => exact ih _
theorem mem_walkK {s r : List Nat} {id : Int} {ks : Ks} : (r, id) ∈ walkK s ks ↔ (s ++ r, id) ∈ ks := by
  induction s generalizing ks with
  | nil => rfl
  | cons a s ih => rw [walkK, ih, mem_tails]; rfl
/-- The hits from a place on. -/
def hitAt (ks : Ks) (i : Nat) : List (Int × Int) := match firstE ks with
  | some id => [(id, (i : Int))]
  | none => []
def hitsF : Ks → List Nat → Nat → List (Int × Int)
  | _, [], _ => []
  | ks, a :: s, i => hitAt (tails a ks) (i + 1) ++ hitsF (tails a ks) s (i + 1)
theorem hitsF_nil (s : List Nat) (i : Nat) : hitsF [] s i = [] := by
  induction s generalizing i with
  | nil => rfl
  | cons a s ih => exact ih _
theorem hitsF_length (ks : Ks) (s : List Nat) (i : Nat) : (hitsF ks s i).length ≤ s.length := by
  induction s generalizing ks i with
  | nil => exact Nat.le_refl _
  | cons a s ih =>
    rw [hitsF, List.length_append, List.length_cons]
    have h1 : (hitAt (tails a ks) (i + 1)).length ≤ 1 := by
      unfold hitAt
      split <;> simp
    have := ih (tails a ks) (i + 1)
    omega
/-- What a search for the whole text tells. -/
def findF (ks : Ks) (s : List Nat) : Int × Bool := if s = [] then (0, false) else if walkK s ks = [] then (0, false) else ((firstE (walkK s ks)).getD 0, true)
/-- The last of hits, as found. -/
def lastF (l : List (Int × Int)) : Int × Bool := match l.getLast? with
  | some h => (h.1, true)
  | none => (0, false)

/-- One step at a node. -/
theorem Tr.base {A : DA} {N : Nat → Prop} {p : Nat} {ks : Ks} (h : Tr A N p ks) : ∃ B : Nat, A.b p = B ∧ 1 ≤ B := by
  cases h with
  | node p ks B hb hB leaf kid sub none0 none1 => exact ⟨B, hb, hB⟩
theorem Tr.step {A : DA} {N : Nat → Prop} {p : Nat} {ks : Ks} (h : Tr A N p ks) {B : Nat} (hB : A.b p = B) {ch : Nat} (h1 : 1 ≤ ch) :
    (tails ch ks ≠ [] → B + ch < A.n ∧ A.c (B + ch) = p ∧ Tr A N (B + ch) (tails ch ks)) ∧ (tails ch ks = [] → ¬ (B + ch < A.n ∧ A.c (B + ch) = p)) := by
  cases h with
  | node p ks B' hb hB' leaf kid sub none0 none1 =>
    have : B = B' := by omega
    subst this
    exact ⟨fun hn => ⟨(kid ch h1 hn).1, (kid ch h1 hn).2.1, sub ch h1 hn⟩, none1 ch h1⟩
theorem Tr.stop {A : DA} {N : Nat → Prop} {p : Nat} {ks : Ks} (h : Tr A N p ks) {B : Nat} (hB : A.b p = B) :
    (∀ id, firstE ks = some id → B < A.n ∧ A.c B = p ∧ A.b B = -id) ∧ (firstE ks = none → ¬ (B < A.n ∧ A.c B = p)) := by
  cases h with
  | node p ks B' hb hB' leaf kid sub none0 none1 =>
    have : B = B' := by omega
    subst this
    exact ⟨fun id hid => ⟨(leaf id hid).1, (leaf id hid).2.1, (leaf id hid).2.2.2⟩, none0⟩
end Go.Proofs.YtjifoimkjgepcaaDoor.Da
