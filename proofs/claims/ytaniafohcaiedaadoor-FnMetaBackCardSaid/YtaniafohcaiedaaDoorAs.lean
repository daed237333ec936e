/-
  Ascending marks: one more.
-/
import Derived.Test.YtaniafohcaiedaaDoorMp
set_option linter.unusedVariables false
set_option linter.unusedSimpArgs false
namespace Go.Proofs.YtaniafohcaiedaaDoor.M
open Go.RowKit Go.Proofs.YtaniafohcaiedaaDoor.K Go.Proofs.YtaniafohcaiedaaDoorW.PrintWords Go.Maps Go.Sort

theorem less_le : ∀ {x y : List UInt8}, Op.bytesLess x y = false → y ≤ x
  | _, [], _ => List.nil_le _
  | [], _ :: _, h => by simp [Op.bytesLess] at h
  | a :: x, b :: y, h => by
    simp only [Op.bytesLess, Bool.or_eq_false_iff, Bool.and_eq_false_iff, decide_eq_false_iff_not, beq_eq_false_iff_ne] at h
    rw [List.cons_le_cons_iff]
    rcases h.2 with h2 | h2
    · exact .inl (UInt8.lt_of_le_of_ne (UInt8.not_lt.1 h.1) (fun e => h2 e.symm))
    · by_cases e : b = a
      · exact .inr ⟨e, less_le h2⟩
      · exact .inl (UInt8.lt_of_le_of_ne (UInt8.not_lt.1 h.1) e)
theorem asc_snoc {L : List Mk} {s : ByteArray} {v : Int} (h : Asc L) (hm : memB s (L.map fun m => m.1) = false)
    (hl : 0 < L.length → Op.bytesLess s.data.toList ((L.map fun m => m.1).getD (L.length - 1) ⟨#[]⟩).data.toList = false) : Asc (L ++ [(s, v)]) := by
  refine List.pairwise_append.2 ⟨h, List.pairwise_singleton _ _, fun a ha b hb => ?_⟩
  obtain rfl := List.mem_singleton.1 hb
  refine ⟨fun e => ?_, ?_⟩
  · have : s ∈ L.map fun m => m.1 := List.mem_map.2 ⟨a, ha, e⟩
    rw [memB_true this] at hm
    cases hm
  · obtain ⟨i, hi, rfl⟩ := List.getElem_of_mem ha
    have h1 := less_le (hl (by omega))
    have e : (L.map fun m => m.1).getD (L.length - 1) ⟨#[]⟩ = L[L.length - 1].1 := by
      simp [List.getD, List.getElem?_eq_getElem (show L.length - 1 < L.length by omega)]
    rw [e] at h1
    by_cases hi2 : i = L.length - 1
    · subst hi2; exact h1
    · exact List.le_trans ((List.pairwise_iff_getElem.1 h) i (L.length - 1) hi (by omega) (by omega)).2 h1
end Go.Proofs.YtaniafohcaiedaaDoor.M
