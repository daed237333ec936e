/-
  Copies of lists of texts: slices.Clone at []string, and impl.copied.
-/
import Derived.Test.YtjifoimkjgepcaaDoorK
import Derived.Test.YtjifoimkjgepcaaDoorRows
import Derived.Outline
set_option linter.unusedVariables false
set_option linter.unusedSimpArgs false
namespace Go.Proofs.YtjifoimkjgepcaaDoor.K
open Go.RowKit Go.Proofs.YtjifoimkjgepcaaDoorW.PrintWords

set_option maxHeartbeats 400000 in
theorem clone_strs (A : Option Addr) (c : Nat) (xs : List ByteArray) (w : World) (hC : Kd.string.C w A xs.length xs) (hb : xs.length * 16 ≤ 140737488355328) :
    Calls Tryd.prog 32 #[.slice A xs.length c] w (RetRow Kd.string 9 xs w) := by
  have q := fun (w : World) (a : Option Addr) (n c n' c' : Nat) => Lib.run_eql_slice_nil (P := Tryd.prog) w _ _ a n c n' c' Tryd.underlying34
  have HC := Lib.hid hC
  clear hC
  rcases A with _ | ad
  · have h0 : xs = [] := by
      cases xs with
      | nil => rfl
      | cons x r => obtain ⟨ad, h, _⟩ := HC.out.2.2 (by simp); cases h
    subst h0
    go_enter Tryd.func32, Tryd.ntmps32
    go_wp2
    go_ret
    exact ⟨_, rfl, Kd.R_nil _ _ _ _ _, Below.refl _ _⟩
  · go_enter Tryd.func32, Tryd.ntmps32
    go_wp2_with (at_builtin; refine Kd.R_append_row (w0 := w) Value.string ByteArray.empty w.heap.size rfl _ _ 34 9 (.string ⟨#[]⟩) 16 rfl Tryd.underlying34 (by kernel_rfl) rfl (by decide) (.slice (some ⟨w.heap.size, 0, none⟩) 0 0) [] xs (some ad) xs.length c (fun _ => True) rfl rfl (fun _ _ => trivial) (R_empty _ _ _ _ (Nat.le_refl _)) (Kd.C_alloc HC.out _) ((Below.refl _ _).alloc (Nat.le_refl _) _) (by simp) (by simpa using hb) ?_)
    intro v1 w1 hR hB hg hat
    go_wp2
    go_ret
    exact ⟨v1, rfl, hR, hB⟩

end Go.Proofs.YtjifoimkjgepcaaDoor.K
