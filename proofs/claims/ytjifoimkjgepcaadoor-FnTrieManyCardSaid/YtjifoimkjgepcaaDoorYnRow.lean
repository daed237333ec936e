/-
  All of many keys are found in a trie that is written and read: FnTrieMany returns true for every input that can be read.
  Conditions: none but those of the row.
-/
import Derived.Test.YtjifoimkjgepcaaDoorYn
import Derived.Test.YtjifoimkjgepcaaDoorOpen
import Derived.Test.YtjifoimkjgepcaaDoorTie
import Derived.Test.YtjifoimkjgepcaaDoorCards
import Derived.LaidMore
import Derived.Lay
import Derived.SevenTiedAt
import Derived.Stop.Joined
import Derived.Handed
import Derived.WalkKit
import Derived.ProofKit
import Derived.OpenShut
import Derived.ShutString
import Derived.ChangeOld
import Derived.Below
import Derived.SizedLaws
set_option linter.unusedVariables false
set_option linter.unusedSimpArgs false
namespace Go.Proofs.YtjifoimkjgepcaaDoor
open Go.ChangeShapes Go.WideShapes Go.ChangeAt Go.RowKit
open Go.ChangeMaps (open_string shut_string)
open Go.Proofs.YtjifoimkjgepcaaDoor.K Go.Proofs.YtjifoimkjgepcaaDoorW.PrintWords

namespace FnTrieMany
theorem own : ownKnob Tryd.prog.godebug = none := by kernel_rfl
theorem laidOut : laidOutB Tryd.prog = true := by kernel_rfl
set_option maxRecDepth 100000 in
theorem lifted (os : Os) (started : os.Started) (H : Type) (enc : TypeId × Value → H) :
    ReturnsInHanded {} Tryd.checked os 6 .any (fun w args => (Rows.fnTrieManySpec.pre enc Tryd.prog Tryd.f6 Rows.fnTrieManyRow.domain false w args ∧ laidMetH Tryd.prog Rows.fnTrieManyRow.laid w) ∧ sizedMet enc Tryd.prog Tryd.f6 (OpenSpec.ofChange Rows.fnTrieManySpec) false w args) (Rows.fnTrieManySpec.post enc Tryd.prog Tryd.f6 false true false false) := by
  refine returnsInHanded_of_change_and (C := Tryd.checked) (X := fun w _ => laidMetH Tryd.prog Rows.fnTrieManyRow.laid w) (fun _ _ _ hh h => h.of_heap hh) own started (by kernel_rfl) Tryd.func6
    (ChangeSpec.witness_shaped (enc := enc) (C := Tryd.checked) (os := os) (X := fun w _ => laidMetH Tryd.prog Rows.fnTrieManyRow.laid w) false (World.laidAll Tryd.prog os Rows.fnTrieManyRow.laid) #[.int .u16 0, .int .u8 0, .int .u8 0] 8 (World.laidAll_os _ _ _)
      (World.shaped_of_ZipB (by kernel_rfl) (by kernel_rfl)) (by kernel_rfl) (by kernel_rfl) (by kernel_rfl)
      (by rw [MakeChecks.laidMetH_plain _ _ _ (by kernel_rfl)]; exact laidMet_laidAll _ (by kernel_rfl) (by kernel_rfl))) ?_
  intro W base args ds gs before hval0 hW hcnd hsz0 hL _
  have hsz : (DataW.weightsEach Tryd.prog (Tryd.f6.params.toList ++ Rows.fnTrieManySpec.plain.varTypes Tryd.prog) (ds ++ gs)).all (· ≤ reachBytes) = true := hsz0
  have hval : ∀ (j : Nat) t v, Tryd.f6.params[j]? = some t → args[j]? = some v → Value.okWide Tryd.prog W .any base t v := hval0
  have hW' := hW
  obtain ⟨p, q, hA0, hV, rfl, hfz, hnd⟩ := hW
  have hA : DataW.TrodAll enc Tryd.prog W 0 (fun _ => true) true Tryd.f6.params.toList args.toList ds p := hA0
  rw [Tryd.params6] at hA hval
  rw [Tryd.params6] at hsz
  obtain ⟨v0, vs0, d0, ds0, p0, q0, hargs, rfl, rfl, h0, r0⟩ := trodAll_cons hA
  obtain ⟨v1, vs1, d1, ds1, p1, q1, rfl, rfl, rfl, h1, r1⟩ := trodAll_cons r0
  obtain ⟨v2, vs2, d2, ds2, p2, q2, rfl, rfl, rfl, h2, r2⟩ := trodAll_cons r1
  obtain ⟨rfl, rfl, rfl⟩ := trodAll_nil r2
  obtain rfl : args = #[v0, v1, v2] := by cases args; simp_all
  obtain ⟨rfl, rfl⟩ := trodVars_none hV
  obtain ⟨n, rfl, rfl, rfl, w_n⟩ := open_int Tryd.underlying43 (hval 0 43 v0 rfl rfl) h0
  obtain ⟨base, rfl, rfl, rfl, w_base⟩ := open_int Tryd.underlying5 (hval 1 5 v1 rfl rfl) h1
  obtain ⟨salt, rfl, rfl, rfl, w_salt⟩ := open_int Tryd.underlying5 (hval 2 5 v2 rfl rfl) h2
  clear hA0 hval0 hsz0 hsz
  refine (Da.trieMany_int n base salt W w_n w_base w_salt).mono fun e W' ⟨he, bel⟩ => ?_
  subst he
  exact ⟨_, rfl, _, _, _, [], _, [], hW', trodAll_mk1 (shut_bool Tryd.underlying4 _), (trodAll_cons_mk (shut_int Tryd.underlying43 w_n) (trodAll_cons_mk (shut_int Tryd.underlying5 w_base) (trodAll_cons_mk (shut_int Tryd.underlying5 w_salt) trodAll_mk0))), rfl, bel.frame _, fun h => by cases h⟩

theorem over : Rows.fnTrieManyRow.holds Tryd.pinned (OpenSpec.ofChange Rows.fnTrieManySpec) :=
  OpenClaim.holds_of_wide 6 Tryd.f6 rfl rfl rfl rfl rfl rfl rfl ⟨rfl, rfl, rfl, rfl, rfl⟩ rfl rfl rfl rfl rfl (by kernel_rfl) Tryd.func6 (by kernel_rfl)
    (of_decide_eq_true (by kernel_rfl)) (by unfold Func.isWrapper; first | (rw [if_pos (by decide +kernel)]; kernel_rfl) | (rw [if_neg (by decide +kernel)]; exact ⟨rfl, rfl⟩))
    (fun os started H enc _ => lifted os started H enc)
end FnTrieMany
theorem fnTrieMany_holds : Rows.FnTrieManySaid := FnTrieMany.over
theorem fnTrieMany_card : Rows.FnTrieManyCardSaid :=
  Claim7.holds_tied_plain_at .later [] [.sentinel, .sentinel, .sentinel] true Rows.fnTrieManyCard.stood.harness true FnTrieMany.over (fun _ h => by cases h) (by kernel_rfl) (fun _ h => by cases h) fnTrieMany_row_tie rfl ⟨rfl, rfl⟩ (by kernel_rfl) rfl
    (fun f fn hf hfn => by
      obtain rfl : f = 6 := Option.some.inj ((show Tryd.prog.funcNamed "pub-kaeriten/laws.FnTrieMany" = some 6 by kernel_rfl).symm.trans hf) |>.symm
      obtain rfl : fn = Tryd.f6 := (Option.some.inj (Tryd.func6.symm.trans hfn)).symm
      exact ⟨by kernel_rfl, fun j t ht => by
        rw [Tryd.params6] at ht
        have hm : t ∈ ([43, 5, 5] : List Nat) := by simpa using Array.mem_of_getElem? ht
        have hall : (([43, 5, 5] : List Nat).all fun u => !Tryd.prog.wantsStandIn u) = true := by kernel_rfl
        exact (show Tryd.prog.wantsStandIn t = false by simpa using List.all_eq_true.1 hall t hm)⟩)
    (by kernel_rfl)
#print axioms fnTrieMany_card
end Go.Proofs.YtjifoimkjgepcaaDoor
