/-
  The walk of laws.marked.
-/
import Derived.Test.YtaniafohcaiedaaDoorMt
import Derived.Test.YtaniafohcaiedaaDoorTm
import Derived.Test.YtaniafohcaiedaaDoorSm
import Derived.Test.YtaniafohcaiedaaDoorHasStr
import Derived.Test.YtaniafohcaiedaaDoorSameBy
set_option linter.unusedVariables false
set_option linter.unusedSimpArgs false
namespace Go.Proofs.YtaniafohcaiedaaDoor.M
open Go.RowKit Go.Proofs.YtaniafohcaiedaaDoor.K Go.Proofs.YtaniafohcaiedaaDoorW.PrintWords Go.Maps Go.Sort

def aMk : Mk := (⟨#[97]⟩, 3)
theorem good_a : Good [aMk] := ⟨List.pairwise_singleton _ _, fun m hm => by rw [List.mem_singleton.1 hm]; decide, fun m hm => by rw [List.mem_singleton.1 hm]; decide, by decide⟩
theorem a_C {w : World} {g : Nat} (h : w.heap[g]? = some (.cells #[.string ⟨#[97]⟩, .int .i64 3] 62 (0, 0))) : kMk.C w (some ⟨g, 0, none⟩) 1 [aMk] :=
  C_of_block (cs := [.string ⟨#[97]⟩, .int .i64 3]) h (reps_cons (R := kMk.K w) (size := 2) (p := aMk) (ps := []) (c := [.string ⟨#[97]⟩, .int .i64 3]) (cs := []) ⟨_, _, rfl, rfl, rfl⟩ rfl ⟨rfl, fun j p hp => by simp at hp⟩) (by simp)
set_option maxHeartbeats 1000000 in
set_option maxRecDepth 5000 in
theorem marked_any (w : World) : Calls Tryd.prog 34 #[] w fun e w' => e = .returned (.bool true) ∧ Below w.heap.size w w' := by
  go_enter Tryd.func34, Tryd.ntmps34
  have h0 := heap_new w (.cells #[.string ⟨#[97]⟩, .int .i64 3] 62)
  have hb0 := below_alloc (Below.refl w.heap.size w) (.cells #[.string ⟨#[97]⟩, .int .i64 3] 62)
  have HB0 := Lib.hid hb0
  have HM := Lib.hid (metaAgain_any (some ⟨w.heap.size, 0, none⟩) 1 [aMk] [aMk] _ (a_C h0) (List.Perm.refl _) good_a)
  clear h0 hb0
  go_wp2_with fail
  refine HM.out.mono ?_
  rintro e w1 ⟨A1, c1, rfl, hC1, hb1⟩
  have HL1 := Lib.hid (HB0.out.trans (hb1.mono (by simp)))
  have hs1 := HL1.out.size
  have hal := below_alloc (Below.refl w1.heap.size w1) (.cells #[.string ⟨#[97]⟩, .int .i64 3] 62)
  have HS := Lib.hid (sameMark_eq A1 (some ⟨w1.heap.size, 0, none⟩) c1 1 [aMk] _ (Kd.C_below hC1 hal) (a_C (heap_new w1 _)))
  have HAL := Lib.hid (HL1.out.trans (hal.mono hs1))
  clear hC1 hb1 hal HM
  go_wp2_with fail
  refine HS.out.mono ?_
  rintro e w2 ⟨rfl, hb2⟩
  have HL2 := Lib.hid (HAL.out.trans (hb2.mono (by simp; omega)))
  clear hb2
  go_wp2_with fail
  go_ret
  exact ⟨by simp, HL2.out⟩
end Go.Proofs.YtaniafohcaiedaaDoor.M
