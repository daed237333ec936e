/-
  few at one list and at two; the walk of laws.FnTrieEmpty.
-/
import Derived.Test.YtjifoimkjgepcaaDoorEf
set_option linter.unusedVariables false
set_option linter.unusedSimpArgs false
namespace Go.Proofs.YtjifoimkjgepcaaDoor.Da
open Go.RowKit Go.ChangeShapes Go.Proofs.YtjifoimkjgepcaaDoor.K Go.Proofs.YtjifoimkjgepcaaDoorW.PrintWords

theorem few_one (A : Option Addr) (c : Nat) (keys : List ByteArray) (w : World) (hC : Kd.string.C w A keys.length keys) (hc : keys.length ≤ c) (hf : fits3 keys) :
    Calls Tryd.prog 14 #[.slice (some ⟨w.heap.size, 0, none⟩) 1 1] (w.alloc (.cells #[.slice A keys.length c] 34)) (BoolIf (sumL keys ≤ 4000) w) := by
  have hD : (Kd.slice 9 Kd.string).C (w.alloc (.cells #[.slice A keys.length c] 34)) (some ⟨w.heap.size, 0, none⟩) [keys].length [keys] :=
    C_of_block (cs := [.slice A keys.length c]) (heap_new w _) ((Reps.none _ _).snoc ⟨A, c, rfl, hc, Kd.C_alloc hC _⟩ rfl) (by simp)
  have hs := sumL_fits hf
  refine (few_sum _ 1 [keys] _ hD (by simp only [sumLL]; omega)).mono ?_
  rintro e w' ⟨b, rfl, hb, hw⟩
  exact ⟨b, rfl, fun h => by have := hb h; simp only [sumLL] at this; omega, ((Below.refl _ w).alloc (Nat.le_refl _) _).trans (hw.mono (by simp))⟩
theorem few_two (b : Nat) (A B : Option Addr) (c d : Nat) (keys xs : List ByteArray) (w : World) (hC : Kd.string.C w A keys.length keys) (hc : keys.length ≤ c) (hf : fits3 keys) (hX : Kd.string.C w B xs.length xs) (hd : xs.length ≤ d) (hg : fits3 xs) (hb : b = w.heap.size) :
    Calls Tryd.prog 14 #[.slice (some ⟨b, 0, none⟩) 2 2] (w.alloc (.cells #[.slice A keys.length c, .slice B xs.length d] 34)) (BoolIf (sumL keys + sumL xs ≤ 4000) w) := by
  subst hb
  have k1 : (Kd.slice 9 Kd.string).K (w.alloc (.cells #[.slice A keys.length c, .slice B xs.length d] 34)) keys [.slice A keys.length c] := ⟨A, c, rfl, hc, Kd.C_alloc hC _⟩
  have k2 : (Kd.slice 9 Kd.string).K (w.alloc (.cells #[.slice A keys.length c, .slice B xs.length d] 34)) xs [.slice B xs.length d] := ⟨B, d, rfl, hd, Kd.C_alloc hX _⟩
  have hD : (Kd.slice 9 Kd.string).C (w.alloc (.cells #[.slice A keys.length c, .slice B xs.length d] 34)) (some ⟨w.heap.size, 0, none⟩) [keys, xs].length [keys, xs] :=
    C_of_block (cs := [.slice A keys.length c, .slice B xs.length d]) (heap_new w _) (((Reps.none _ _).snoc k1 rfl).snoc k2 rfl) (by simp)
  have hs := sumL_fits hf
  have ht := sumL_fits hg
  refine (few_sum _ 2 [keys, xs] _ hD (by simp only [sumLL]; omega)).mono ?_
  rintro e w' ⟨b, rfl, hb, hw⟩
  exact ⟨b, rfl, fun h => by have := hb h; simp only [sumLL] at this; omega, ((Below.refl _ w).alloc (Nat.le_refl _) _).trans (hw.mono (by simp))⟩

end Go.Proofs.YtjifoimkjgepcaaDoor.Da
