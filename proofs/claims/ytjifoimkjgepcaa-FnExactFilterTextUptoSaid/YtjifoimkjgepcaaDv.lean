/-
  Small functions of the library: slices.Clone at []int, cmp.Less at string, slices.IsSorted at []string.
-/
import Derived.Test.YtjifoimkjgepcaaCl
import Derived.Test.YtjifoimkjgepcaaDc
import Derived.Deep.QuietTactic
import Derived.BigQuiet
import Derived.WalkLawsBesides
import Derived.IntWalk
set_option linter.unusedVariables false
set_option linter.unusedSimpArgs false
namespace Go.Proofs.Ytjifoimkjgepcaa.Da
open Go.RowKit Go.Proofs.Ytjifoimkjgepcaa.K Go.Proofs.YtjifoimkjgepcaaW.PrintWords

set_option maxHeartbeats 400000 in
theorem clone_ints (A : Option Addr) (c : Nat) (xs : List Int) (w : World) (hC : (Kd.int .i64).C w A xs.length xs) (hb : xs.length * 8 ≤ 140737488355328) :
    Calls Try.prog 47 #[.slice A xs.length c] w (RetRow (Kd.int .i64) 3 xs w) := by
  have q := fun (w : World) (a : Option Addr) (n c n' c' : Nat) => Lib.run_eql_slice_nil (P := Try.prog) w _ _ a n c n' c' Try.underlying29
  have HC := Lib.hid hC
  clear hC
  rcases A with _ | ad
  · have h0 : xs = [] := by
      cases xs with
      | nil => rfl
      | cons x r => obtain ⟨ad, h, _⟩ := HC.out.2.2 (by simp); cases h
    subst h0
    go_enter Try.func47, Try.ntmps47
    go_wp2
    go_ret
    exact ⟨_, rfl, Kd.R_nil _ _ _ _ _, Below.refl _ _⟩
  · go_enter Try.func47, Try.ntmps47
    go_wp2_with (at_builtin; refine Kd.R_append_row (w0 := w) (Value.int .i64) 0 w.heap.size rfl _ _ 29 3 (.int .i64 0) 8 rfl Try.underlying29 (by kernel_rfl) rfl (by decide) (.slice (some ⟨w.heap.size, 0, none⟩) 0 0) [] xs (some ad) xs.length c (fun _ => True) rfl rfl (fun _ _ => trivial) (R_empty _ _ _ _ (Nat.le_refl _)) (Kd.C_alloc HC.out _) ((Below.refl _ _).alloc (Nat.le_refl _) _) (by simp) (by simpa using hb) ?_)
    intro v1 w1 hR hB hg hat
    go_wp2
    go_ret
    exact ⟨v1, rfl, hR, hB⟩

/-- Go's order of texts. -/
def ltB (a b : ByteArray) : Bool := Op.bytesLess a.toList b.toList
set_option maxHeartbeats 400000 in
theorem nan_any (a : ByteArray) (w : World) : Calls Try.prog 106 #[.string a] w fun e w' => e = .returned (.bool false) ∧ w = w' := by
  go_enter Try.func106, Try.ntmps106
  go_wp2
  go_ret
  exact ⟨by simp, rfl⟩
set_option maxHeartbeats 400000 in
theorem less_any (a b : ByteArray) (w : World) : Calls Try.prog 94 #[.string a, .string b] w fun e w' => e = .returned (.bool (ltB a b)) ∧ w = w' := by
  go_enter Try.func94, Try.ntmps94
  go_wp2_with fail
  refine (nan_any a w).mono ?_
  rintro e w1 ⟨rfl, rfl⟩
  go_wp2
  go_ret
  exact ⟨by simp [ltB], rfl⟩
set_option maxHeartbeats 400000 in
/-- A list that ascends is sorted. -/
theorem sorted_yes (A : Option Addr) (c : Nat) (xs : List ByteArray) (w : World) (hC : Kd.string.C w A xs.length xs) (hs : ∀ i (h : i + 1 < xs.length), ltB xs[i + 1] xs[i] = false) :
    Calls Try.prog 64 #[.slice A xs.length c] w fun e w' => e = .returned (.bool true) ∧ ∃ n, w' = w.drewN n := by
  have hm := hC.2.1
  have HC := Lib.hid hC
  have HS := Lib.hid hs
  clear hC hs
  go_enter Try.func64, Try.ntmps64
  go_wp2_with fail
  go_loopw [3] (fun i wr => ∃ z : Int, i = .int .i64 z ∧ z < xs.length ∧ -1 ≤ z ∧ Hid (∃ n, wr = w.drewN n)) (fun i _ => (intOf i + 1).toNat)
  case atStart => exact ⟨_, rfl, by omega, by omega, Lib.hid ⟨0, rfl⟩⟩
  case round =>
    obtain ⟨z, rfl, hz1, hz2, HW⟩ := hrel
    by_cases hz : 0 < z
    · obtain ⟨k, hk⟩ : ∃ k : Nat, z = ((k + 1 : Nat) : Int) := ⟨(z - 1).toNat, by omega⟩
      obtain ⟨k1, hk1⟩ : ∃ k1, k1 = k + 1 := ⟨_, rfl⟩
      rw [← hk1] at hk
      subst hk
      have hkl : k1 < xs.length := by omega
      have hsub : (k1 : Int) - 1 = (k : Int) := by omega
      have hkl0 : k < xs.length := by omega
      obtain ⟨ad, rfl, h1⟩ := strs_at HC.out k1 hkl
      obtain ⟨ad2, he, h2⟩ := strs_at HC.out k hkl0
      injection he with he
      subst he
      have h1' : wr.cell? (ad.add k1) = some (.string xs[k1]) := by obtain ⟨n, hn⟩ := HW.out; rw [hn]; exact h1
      have h2' : wr.cell? (ad.add k) = some (.string xs[k]) := by obtain ⟨n, hn⟩ := HW.out; rw [hn]; exact h2
      clear h1 h2
      have hlt : ltB xs[k1] xs[k] = false := by subst hk1; exact HS.out k (by omega)
      have HLT := Lib.hid hlt
      have HK := Lib.hid hk1
      clear hlt hk1
      have hwk : IntKind.i64.wrap (k : Int) = k := IntWalk.i64_in _ (by omega)
      go_wp2_with fail
      go_quiet ((go_at_call 94; exact Calls.quiet_of_same ((less_any _ _ _).mono (fun e W ⟨h1, h2⟩ => ⟨by rw [h1, HLT.out], h2.symm⟩))))
      go_wp2_with fail
      refine ⟨⟨_, rfl, by omega, by omega, Lib.hid (by obtain ⟨n, hn⟩ := HW.out; exact ⟨_, by rw [hn, World.drewN_drewN]⟩)⟩, ?_⟩
      have := HK.out
      simp [intOf]
      omega
    · go_wp2
      go_ret
      exact ⟨rfl, HW.out⟩
end Go.Proofs.Ytjifoimkjgepcaa.Da
