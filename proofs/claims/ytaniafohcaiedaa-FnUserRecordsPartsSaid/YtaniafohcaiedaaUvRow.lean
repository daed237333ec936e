/-
  Two texts of whole lines have the records of both: FnUserRecordsParts returns true for every input that can be read.
  Conditions: none but those of the row.
-/
import Derived.Test.YtaniafohcaiedaaUo
import Derived.Test.YtaniafohcaiedaaOpen
import Derived.WalkKit
import Derived.ProofKit
import Derived.OpenShut
import Derived.ShutString
import Derived.ChangeOld
import Derived.Below
import Derived.SizedLaws
set_option linter.unusedVariables false
set_option linter.unusedSimpArgs false
namespace Go.Proofs.Ytaniafohcaiedaa
open Go.ChangeShapes Go.WideShapes Go.ChangeAt Go.RowKit
open Go.ChangeMaps (open_string shut_string)
open Go.Proofs.Ytaniafohcaiedaa.K Go.Proofs.YtaniafohcaiedaaW.PrintWords

namespace FnUserRecordsParts
theorem own : ownKnob Try.prog.godebug = none := by kernel_rfl
theorem laidOut : laidOutB Try.prog = true := by kernel_rfl
set_option maxRecDepth 100000 in
theorem lifted (os : Os) (started : os.Started) (H : Type) (enc : TypeId × Value → H) :
    ReturnsInHanded {} Try.checked os 5 .any (Rows.fnUserRecordsPartsSpec.pre6 enc Try.prog Try.f5 Rows.fnUserRecordsPartsRow.domain false) (Rows.fnUserRecordsPartsSpec.post enc Try.prog Try.f5 false true false false) := by
  refine returnsInHanded_of_change_sized (C := Try.checked) own started (by kernel_rfl) Try.func5
    (ChangeSpec.witness6 (enc := enc) (C := Try.checked) false ⟨#[], #[.slice none 0 0, .slice none 0 0, .string ByteArray.empty], []⟩ 8 (by kernel_rfl) (by kernel_rfl) (by kernel_rfl) (by kernel_rfl)) ?_
  intro W base args ds gs before hval0 hW hcnd hsz0 _
  have hsz : (DataW.weightsEach Try.prog (Try.f5.params.toList ++ Rows.fnUserRecordsPartsSpec.plain.varTypes Try.prog) (ds ++ gs)).all (· ≤ reachBytes) = true := hsz0
  have hval : ∀ (j : Nat) t v, Try.f5.params[j]? = some t → args[j]? = some v → Value.okWide Try.prog W .any base t v := hval0
  have hW' := hW
  obtain ⟨p, q, hA0, hV, rfl, hfz, hnd⟩ := hW
  have hA : DataW.TrodAll enc Try.prog W 0 (fun _ => true) true Try.f5.params.toList args.toList ds p := hA0
  rw [Try.params5] at hA hval
  rw [Try.params5] at hsz
  obtain ⟨v0, vs0, d0, ds0, p0, q0, hargs, rfl, rfl, h0, r0⟩ := trodAll_cons hA
  obtain ⟨v1, vs1, d1, ds1, p1, q1, rfl, rfl, rfl, h1, r1⟩ := trodAll_cons r0
  obtain ⟨v2, vs2, d2, ds2, p2, q2, rfl, rfl, rfl, h2, r2⟩ := trodAll_cons r1
  obtain ⟨rfl, rfl, rfl⟩ := trodAll_nil r2
  obtain rfl : args = #[v0, v1, v2] := by cases args; simp_all
  obtain ⟨rfl, rfl⟩ := trodVars_none hV
  have lt0 : ∀ x ∈ p0, x.block < W.heap.size := by obtain ⟨m, hm⟩ := h0; exact DataW.trod_lt m _ _ _ hm
  obtain ⟨A_l, c_l, l, rfl, hc_l, hC_l, V_l⟩ := open_slice_arg (q := 0) (Opens.slice Try.underlying33 (by kernel_rfl) Tx.opens_rec 0) (okWide_slice Try.underlying33 (hval 0 33 v0 rfl rfl)) h0
  have lt1 : ∀ x ∈ p1, x.block < W.heap.size := by obtain ⟨m, hm⟩ := h1; exact DataW.trod_lt m _ _ _ hm
  obtain ⟨A_m, c_m, m, rfl, hc_m, hC_m, V_m⟩ := open_slice_arg (q := 0) (Opens.slice Try.underlying33 (by kernel_rfl) Tx.opens_rec 0) (okWide_slice Try.underlying33 (hval 1 33 v1 rfl rfl)) h1
  obtain ⟨s, rfl, rfl, rfl, y0_s⟩ := open_string Try.underlying9 (hval 2 9 v2 rfl rfl) h2
  have y_s : s.size ≤ 140737488351232 := by
    have z := sized_string hsz (j := 2) (t := 9) rfl rfl
    rw [Array.length_toList] at z
    exact z
  clear hA0 hval0 hsz0 hsz
  refine (Tx.ur_walk A_l A_m c_l c_m l m s W hC_l hC_m y_s).mono fun e W' ⟨he, bel⟩ => ?_
  subst he
  exact ⟨_, rfl, _, _, _, [], _, [], hW', trodAll_mk1 (shut_bool Try.underlying4 _), (trodAll_cons_mk (Below.trod laidOut (by kernel_rfl) (of_decide_eq_true (by kernel_rfl)) h0 bel lt0) (trodAll_cons_mk (Below.trod laidOut (by kernel_rfl) (of_decide_eq_true (by kernel_rfl)) h1 bel lt1) (trodAll_cons_mk (shut_string Try.underlying9 y0_s) trodAll_mk0))), rfl, bel.frame _, fun h => by cases h⟩

theorem over : Rows.fnUserRecordsPartsRow.holds Try.pinned (OpenSpec.ofChange Rows.fnUserRecordsPartsSpec) :=
  OpenClaim.holds_of_wide 5 Try.f5 rfl rfl rfl rfl rfl rfl rfl ⟨rfl, rfl, rfl, rfl, rfl⟩ rfl rfl rfl rfl rfl (by kernel_rfl) Try.func5 (by kernel_rfl)
    (of_decide_eq_true (by kernel_rfl)) (by unfold Func.isWrapper; first | (rw [if_pos (by decide +kernel)]; kernel_rfl) | (rw [if_neg (by decide +kernel)]; exact ⟨rfl, rfl⟩))
    (fun os started H enc _ => lifted os started H enc)
end FnUserRecordsParts
theorem fnUserRecordsParts_holds : Rows.FnUserRecordsPartsSaid := FnUserRecordsParts.over
#print axioms fnUserRecordsParts_holds
end Go.Proofs.Ytaniafohcaiedaa
