/-
  An argument of three numbers that can be read.
-/
import Derived.Test.YtaniafohcaiedaaDoorOpen
import Derived.Test.YtaniafohcaiedaaDoorT3
import Derived.OpenShut
set_option linter.unusedVariables false
set_option linter.unusedSimpArgs false
namespace Go.Proofs.YtaniafohcaiedaaDoor.Z
open Go.RowKit Go.Proofs.YtaniafohcaiedaaDoor.K Go.Proofs.YtaniafohcaiedaaDoorW.PrintWords

theorem opens_arr3 {P : Program} {w : World} {t e : TypeId} (ht : P.underlying t = some (.array 3 e)) (he : P.underlying e = some (.int .i64)) (hc : P.cellsOf e = 1) (hct : P.cellsOf t = 3) : Opens P w t (kT .i64) (fun _ => True) := by
  intro H enc base spare held fuel cs x h
  obtain ⟨xs, m, _, _, hl, hxl, hel⟩ := DataW.trod_array ht h
  have one : ∀ i, i < 3 → ∃ z : Int, (cs.drop i).take 1 = [.int .i64 z] := by
    intro i hi
    have := hel i hi
    rw [hc, Nat.mul_one, List.getElem?_eq_getElem (by omega)] at this
    obtain ⟨z, h1, _⟩ := DataW.trod_int he this
    exact ⟨z, h1⟩
  obtain ⟨z0, h0⟩ := one 0 (by omega)
  obtain ⟨z1, h1⟩ := one 1 (by omega)
  obtain ⟨z2, h2⟩ := one 2 (by omega)
  refine ⟨(z0, z1, z2), ?_, trivial⟩
  show cs = enc3 .i64 (z0, z1, z2)
  rw [hct] at hl
  match cs, hl with
  | [a, b, c], _ =>
    simp at h0 h1 h2
    simp [enc3, h0, h1, h2]
end Go.Proofs.YtaniafohcaiedaaDoor.Z
