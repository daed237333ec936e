/-
  Copies of lists of texts: slices.Clone at []string, and impl.copied.
-/
import Derived.Test.YtjifoimkjgepcaaK
import Derived.Test.YtjifoimkjgepcaaRows
import Derived.Outline
set_option linter.unusedVariables false
set_option linter.unusedSimpArgs false
namespace Go.Proofs.Ytjifoimkjgepcaa.K
open Go.RowKit Go.Proofs.YtjifoimkjgepcaaW.PrintWords

set_option maxHeartbeats 400000 in
theorem clone_strs (A : Option Addr) (c : Nat) (xs : List ByteArray) (w : World) (hC : Kd.string.C w A xs.length xs) (hb : xs.length * 16 ≤ 140737488355328) :
    Calls Try.prog 46 #[.slice A xs.length c] w (RetRow Kd.string 9 xs w) := by
  have q := fun (w : World) (a : Option Addr) (n c n' c' : Nat) => Lib.run_eql_slice_nil (P := Try.prog) w _ _ a n c n' c' Try.underlying28
  have HC := Lib.hid hC
  clear hC
  rcases A with _ | ad
  · have h0 : xs = [] := by
      cases xs with
      | nil => rfl
      | cons x r => obtain ⟨ad, h, _⟩ := HC.out.2.2 (by simp); cases h
    subst h0
    go_enter Try.func46, Try.ntmps46
    go_wp2
    go_ret
    exact ⟨_, rfl, Kd.R_nil _ _ _ _ _, Below.refl _ _⟩
  · go_enter Try.func46, Try.ntmps46
    go_wp2_with (at_builtin; refine Kd.R_append_row (w0 := w) Value.string ByteArray.empty w.heap.size rfl _ _ 28 9 (.string ⟨#[]⟩) 16 rfl Try.underlying28 (by kernel_rfl) rfl (by decide) (.slice (some ⟨w.heap.size, 0, none⟩) 0 0) [] xs (some ad) xs.length c (fun _ => True) rfl rfl (fun _ _ => trivial) (R_empty _ _ _ _ (Nat.le_refl _)) (Kd.C_alloc HC.out _) ((Below.refl _ _).alloc (Nat.le_refl _) _) (by simp) (by simpa using hb) ?_)
    intro v1 w1 hR hB hg hat
    go_wp2
    go_ret
    exact ⟨v1, rfl, hR, hB⟩

set_option maxHeartbeats 400000 in
theorem copied_any (A : Option Addr) (c : Nat) (xs : List (List ByteArray)) (w : World) (hC : (Kd.slice 9 Kd.string).C w A xs.length xs) (hb : ∀ x ∈ xs, x.length * 16 ≤ 140737488355328) (hb' : xs.length * 24 ≤ 140737488355328) :
    Calls Try.prog 42 #[.slice A xs.length c] w (RetRow (Kd.slice 9 Kd.string) 28 xs w) := by
  have HC := Lib.hid hC
  have HB := Lib.hid hb
  clear hC hb
  go_enter Try.func42, Try.ntmps42
  go_wp2
  go_loopw [3, 8] (fun v i wr => ∃ k : Nat, k ≤ xs.length ∧ i = .int .i64 k ∧ (Kd.slice 9 Kd.string).R 28 wr w.heap.size (fun _ => True) v (xs.take k) ∧ Below w.heap.size w wr) (fun _ i _ => xs.length - (intOf i).toNat)
  case atStart => exact ⟨0, Nat.zero_le _, rfl, Kd.R_nil _ _ _ _ _, Below.refl _ _⟩
  case round =>
    obtain ⟨k, hk, rfl, hR, hbel⟩ := hrel
    by_cases hlt : k < xs.length
    · obtain ⟨ad, A', c', rfl, hcell, hl', hC'⟩ := rows_at HC.out k hlt
      have hcell' := (hbel.cell (World.block_lt_of_cell? w _ hcell)).trans hcell
      have HC' := Lib.hid (Kd.C_below hC' hbel)
      obtain ⟨A3, c3, hv3⟩ := Kd.R_slice hR
      rw [show (xs.take k).length = k by simp; omega] at hv3
      subst hv3
      have HR := Lib.hid hR
      have hsz := hbel.size
      clear hcell hl' hC' hR
      go_wp2_with fail
      refine (clone_strs A' c' xs[k] wr HC'.out (HB.out _ (List.getElem_mem hlt))).mono ?_
      rintro e w1 ⟨v, rfl, hv, hw1⟩
      have HV := Lib.hid hv
      have HL := Lib.hid (hbel.trans (hw1.mono hsz))
      have HR1 := Lib.hid (Kd.R_below HR.out hw1)
      have hsz1 := hw1.size
      obtain ⟨A4, c4, hv4⟩ := Kd.R_slice hv
      subst hv4
      clear hbel hw1 hv hcell'
      go_wp2_with (at_builtin; refine kapp (w0 := w) (Kd.slice 9 Kd.string) w.heap.size rfl _ _ 22 28 (.slice none 0 0) 24 rfl Try.underlying22 (by kernel_rfl) rfl (by decide) (by decide) _ (xs.take k) xs[k] [.slice A4 xs[k].length c4] (fun _ => True) (fun k => wr.heap.size ≤ k) w1.heap.size rfl rfl ?hg ?hp ?hok (fun _ _ => trivial) (Kd.R_alloc HR1.out _) (HL.out.alloc (by omega) _) (by simp; omega) ?hl ?_)
      case hg =>
        intro j u hj
        rw [cell_of_heap (heap_new w1 _)]
        simpa using hj
      case hp =>
        have h := Kd.R_bound HV.out
        exact ⟨_, rfl, Kd.R_lower (Kd.R_alloc (Kd.R_mono h (fun k hk => hk.2.1)) _) hsz⟩
      case hok =>
        intro q hq
        refine ⟨trivial, fun e => ?_⟩
        have := (own_lt (Kd.R_own HR.out).choose_spec q e.symm)
        omega
      case hl => simp; omega
      intro v1 w2 hR2 hB2 hg2 hat2
      clear hg2 hat2
      have HR2 := Lib.hid hR2
      have HB2 := Lib.hid hB2
      clear hR2 hB2
      go_wp2
      refine ⟨⟨k + 1, by omega, by go_num, ?_, HB2.out⟩, by simp [intOf]; omega⟩
      exact HR2.out
    · go_wp2
      go_ret
      obtain rfl : k = xs.length := by omega
      rw [List.take_length] at hR
      exact ⟨_, rfl, hR, hbel⟩
end Go.Proofs.Ytjifoimkjgepcaa.K
