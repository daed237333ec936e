/-
  The text of a filter is that of the reference: FnExactFilterText returns true for every input of at most the second form’s bulk.
  Conditions: none but those of the row.
-/
import Derived.Test.YtjifoimkjgepcaaXm
import Derived.Test.YtjifoimkjgepcaaOpen
import Derived.Test.YtjifoimkjgepcaaOpenB
import Derived.JoinedCond
import Derived.WalkKit
import Derived.ProofKit
import Derived.OpenShut
import Derived.ShutString
import Derived.ChangeOld
import Derived.Below
import Derived.SizedLaws
set_option linter.unusedVariables false
set_option linter.unusedSimpArgs false
namespace Go.Proofs.Ytjifoimkjgepcaa
open Go.ChangeShapes Go.WideShapes Go.ChangeAt Go.RowKit
open Go.ChangeMaps (open_string shut_string)
open Go.Proofs.Ytjifoimkjgepcaa.K Go.Proofs.YtjifoimkjgepcaaW.PrintWords

namespace FnExactFilterText
theorem own : ownKnob Try.prog.godebug = none := by kernel_rfl
theorem laidOut : laidOutB Try.prog = true := by kernel_rfl
set_option maxRecDepth 100000 in
theorem lifted (os : Os) (started : os.Started) (H : Type) (enc : TypeId × Value → H) (F : Stop.Interp) :
    ReturnsInHanded {} Try.checked os 3 .any ((Rows.OpenSpec.upto Rows.fnExactFilterTextSpec).pre6 enc Try.prog Try.f3 Rows.fnExactFilterTextUptoRow.domain false) (((Rows.OpenSpec.upto Rows.fnExactFilterTextSpec).at F).post enc Try.prog Try.f3 false true false false) := by
  refine returnsInHanded_of_cond (C := Try.checked) (s := Rows.OpenSpec.upto Rows.fnExactFilterTextSpec) (k := Rows.uptoSmall) rfl own started (by kernel_rfl) Try.func3
    (OpenSpec.witness (enc := enc) (C := Try.checked) (s := Rows.OpenSpec.upto Rows.fnExactFilterTextSpec) (k := Rows.uptoSmall) rfl false ⟨#[], #[.slice none 0 0], []⟩ 8 (by kernel_rfl) (by kernel_rfl) (by kernel_rfl)
      (x := ([.nil], [], [])) (by kernel_rfl) rfl (by kernel_rfl)) ?_
  intro W base args ds gs before hval0 hW hcnd hk _
  have hbk : Rows.uptoBulkAll (ds ++ gs) ≤ 1048576 := of_decide_eq_true hk
  suffices hh : Calls Try.prog 3 args W fun e W' => ∃ v, e = .returned v ∧ Rows.fnExactFilterTextSpec.post enc Try.prog Try.f3 false true false false W args v W' from hh
  have hval : ∀ (j : Nat) t v, Try.f3.params[j]? = some t → args[j]? = some v → Value.okWide Try.prog W .any base t v := hval0
  have hW' := hW
  obtain ⟨p, q, hA0, hV, rfl, hfz, hnd⟩ := hW
  have hA : DataW.TrodAll enc Try.prog W 0 (fun _ => true) true Try.f3.params.toList args.toList ds p := hA0
  rw [Try.params3] at hA hval
  obtain ⟨v0, vs0, d0, ds0, p0, q0, hargs, rfl, rfl, h0, r0⟩ := trodAll_cons hA
  obtain ⟨rfl, rfl, rfl⟩ := trodAll_nil r0
  obtain rfl : args = #[v0] := by cases args; simp_all
  obtain ⟨rfl, rfl⟩ := trodVars_none hV
  have lt0 : ∀ x ∈ p0, x.block < W.heap.size := by obtain ⟨m, hm⟩ := h0; exact DataW.trod_lt m _ _ _ hm
  obtain ⟨A_filters, c_filters, filters, rfl, hc_filters, hC_filters, V_filters, b0_filters⟩ := open_slice_argB (q := 0) (OpensB.slice Try.underlying22 (by kernel_rfl) (OpensB.slice Try.underlying28 (by kernel_rfl) (OpensB.string Try.underlying9) 9) 0) (okWide_slice Try.underlying22 (hval 0 22 v0 rfl rfl)) h0
  have b_filters : Rows.uptoBulk d0 ≤ 1048576 := by simp only [List.append_nil, Rows.uptoBulkAll] at hbk; omega
  replace b_filters := Nat.le_trans b0_filters b_filters
  clear hA0 hval0
  refine (Flt.ftext_walk A_filters c_filters filters W hC_filters (Flt.sum_bulk filters b_filters)).mono fun e W' ⟨he, bel⟩ => ?_
  subst he
  exact ⟨_, rfl, _, _, _, [], _, [], hW', trodAll_mk1 (shut_bool Try.underlying4 _), (trodAll_cons_mk (Below.trod laidOut (by kernel_rfl) (of_decide_eq_true (by kernel_rfl)) h0 bel lt0) trodAll_mk0), rfl, bel.frame _, fun h => by cases h⟩

theorem over : Rows.fnExactFilterTextUptoRow.holds Try.pinned (Rows.OpenSpec.upto Rows.fnExactFilterTextSpec) :=
  OpenClaim.holds_of_cond 3 Try.f3 rfl rfl rfl rfl rfl rfl rfl ⟨rfl, rfl, rfl, rfl, rfl⟩ rfl rfl rfl rfl rfl (by kernel_rfl) Try.func3 (by kernel_rfl)
    (of_decide_eq_true (by kernel_rfl)) (by unfold Func.isWrapper; first | (rw [if_pos (by decide +kernel)]; kernel_rfl) | (rw [if_neg (by decide +kernel)]; exact ⟨rfl, rfl⟩))
    (fun os started H enc _ F => lifted os started H enc F)
end FnExactFilterText
theorem fnExactFilterTextUpto_holds : Rows.FnExactFilterTextUptoSaid := FnExactFilterText.over
#print axioms fnExactFilterTextUpto_holds
end Go.Proofs.Ytjifoimkjgepcaa
