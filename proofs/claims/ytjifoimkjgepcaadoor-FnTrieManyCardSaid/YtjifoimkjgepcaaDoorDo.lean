/-
  The closure that CommonPrefixSearchCallback is handed, and one call of it.
-/
import Derived.Test.YtjifoimkjgepcaaDoorDj
set_option linter.unusedVariables false
set_option linter.unusedSimpArgs false
namespace Go.Proofs.YtjifoimkjgepcaaDoor.Da
open Go.RowKit Go.ChangeShapes Go.Proofs.YtjifoimkjgepcaaDoor.K Go.Proofs.YtjifoimkjgepcaaDoorW.PrintWords

abbrev tAns : Nat := 51
/-- An answer in memory, its calls v. -/
def AnsAt (ab : Nat) (a0 a1 a2 a3 a4 v : Value) (w : World) : Prop := w.heap[ab]? = some (.cells #[a0, a1, a2, a3, a4, v] tAns (0, 0))
set_option maxHeartbeats 1000000 in
set_option maxRecDepth 100000 in
theorem closure_any (ab : Nat) (a0 a1 a2 a3 a4 v : Value) (H : List Hit) (id l : Int) (w0 w : World) (hA : AnsAt ab a0 a1 a2 a3 a4 v w) (hR : kHit.R tHit w w0.heap.size (fun _ => True) v H) (hk : Kp ab ab w0 w) (hab : ab < w0.heap.size) (hl : H.length ≤ 8796093022000) :
    Calls Tryd.prog 47 #[.int .i64 id, .int .i64 l, .pointer (some ⟨ab, 0, none⟩)] w fun e w' => e = .returned (.tuple #[]) ∧ ∃ v', AnsAt ab a0 a1 a2 a3 a4 v' w' ∧ kHit.R tHit w' w0.heap.size (fun _ => True) v' (H ++ [(id, l)]) ∧ Kp ab ab w0 w' := by
  have hc5 : w.cell? ⟨ab, 5, none⟩ = some v := by rw [cell_of_heap hA]; rfl
  obtain ⟨w1, hw1⟩ : ∃ w1, w1 = w.alloc (.cells #[.int .i64 id, .int .i64 l] tHit) := ⟨_, rfl⟩
  obtain ⟨Av, cv, rfl⟩ := Kd.R_slice hR
  have HA := Lib.hid hA
  have HR := Lib.hid hR
  have HK := Lib.hid hk
  clear hA hR hk
  go_enter Tryd.func47, Tryd.ntmps47
  go_wp2_with (at_builtin; refine kapp (w0 := w) kHit w0.heap.size rfl _ _ 49 tHit (.agg #[.int .i64 0, .int .i64 0]) 16 rfl Tryd.underlying49 infoHit rfl (by decide) (by decide) _ H (id, l) [.int .i64 id, .int .i64 l] (fun _ => True) (fun _ => False) w.heap.size rfl rfl ?hg (hit_M _ _ _ _) (fun _ hk => hk.elim) (fun _ _ => trivial) (Kd.R_alloc HR.out _) ((Below.refl _ _).alloc HK.out.size _) (by have := HK.out.size; simp; omega) (by omega) ?_)
  case hg =>
    intro j u hj
    rw [cell_of_heap (heap_new w _)]
    simpa using hj
  intro v1 w2 ho hb hg hat
  obtain ⟨Av1, cv1, rfl⟩ := Kd.R_slice ho
  have hA2 : AnsAt ab a0 a1 a2 a3 a4 (.slice Av H.length cv) w2 := (hb.block ab hab).trans HA.out
  have hc6 : w2.cell? ⟨ab, 5, none⟩ = some (.slice Av H.length cv) := by rw [cell_of_heap hA2]; rfl
  have hf6 : w2.frozen? ⟨ab, 5, none⟩ = false := frozen_of_heap hA2 5
  have HA2 := Lib.hid hA2
  have HO := Lib.hid ho
  have HK2 : Hid (Kp ab ab w0 w2) := Lib.hid ⟨hb.os.trans HK.out.os, hb.tape.trans HK.out.tape, hb.output.trans HK.out.output, Nat.le_trans HK.out.size hb.size, fun k h1 h2 h3 => (hb.block k h1).trans (HK.out.block k h1 h2 h3)⟩
  clear hA2 ho hb hg hat hc5
  go_wp2
  go_end0
  refine ⟨rfl, _, ?_, Kd.R_set HO.out HA2.out (by decide) 5 _, HK2.out.set (p := ⟨ab, 5, none⟩) (.inl rfl) _⟩
  unfold AnsAt
  rw [heap_set HA2.out, List.length_append]
  rfl
end Go.Proofs.YtjifoimkjgepcaaDoor.Da
