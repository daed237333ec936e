/-
  The walks of the laws' guards of tries: few (with its sum), within, clean, goodIDs.
-/
import Derived.Test.YtjifoimkjgepcaaDoorFits
import Derived.Test.YtjifoimkjgepcaaDoorDy
set_option linter.unusedVariables false
set_option linter.unusedSimpArgs false
namespace Go.Proofs.YtjifoimkjgepcaaDoor.Da
open Go.RowKit Go.Proofs.YtjifoimkjgepcaaDoor.K Go.Proofs.YtjifoimkjgepcaaDoorW.PrintWords

/-- What the texts of a list weigh. -/
def sumL : List ByteArray → Nat
  | [] => 0
  | s :: r => s.size + 1 + sumL r
def sumLL : List (List ByteArray) → Nat
  | [] => 0
  | l :: r => sumL l + sumLL r
theorem sumL_append (a b : List ByteArray) : sumL (a ++ b) = sumL a + sumL b := by
  induction a with
  | nil => simp [sumL]
  | cons x r ih => simp only [List.cons_append, sumL, ih]; omega
theorem sumLL_append (a b : List (List ByteArray)) : sumLL (a ++ b) = sumLL a + sumLL b := by
  induction a with
  | nil => simp [sumLL]
  | cons x r ih => simp only [List.cons_append, sumLL, ih]; omega
theorem sumL_le {xs : List ByteArray} (h : ∀ x ∈ xs, x.size ≤ 2147483647) : sumL xs ≤ xs.length * 2147483648 := by
  induction xs with
  | nil => simp [sumL]
  | cons x r ih =>
    have h1 := h x (List.mem_cons_self ..)
    have h2 := ih fun y hy => h y (List.mem_cons_of_mem _ hy)
    simp only [sumL, List.length_cons]
    omega
theorem sumL_fits {xs : List ByteArray} (h : fits3 xs) : sumL xs ≤ 4611686016279904256 := by
  have h1 := sumL_le h.2
  have h2 := h.1
  omega
theorem sumLL_le {xs : List (List ByteArray)} (h : ∀ x ∈ xs, fits3 x) : sumLL xs ≤ xs.length * 4611686016279904256 := by
  induction xs with
  | nil => simp [sumLL]
  | cons x r ih =>
    have h1 := sumL_fits (h x (List.mem_cons_self ..))
    have h2 := ih fun y hy => h y (List.mem_cons_of_mem _ hy)
    simp only [sumLL, List.length_cons]
    omega
theorem sumL_take_succ {xs : List ByteArray} {j : Nat} (h : j < xs.length) : sumL (xs.take (j + 1)) = sumL (xs.take j) + xs[j].size + 1 := by
  rw [List.take_succ_eq_append_getElem h, sumL_append]
  simp only [sumL]
  omega
theorem sumLL_take_succ {xs : List (List ByteArray)} {j : Nat} (h : j < xs.length) : sumLL (xs.take (j + 1)) = sumLL (xs.take j) + sumL xs[j] := by
  rw [List.take_succ_eq_append_getElem h, sumLL_append]
  simp only [sumLL]
  omega
theorem sumL_take_le (xs : List ByteArray) (j : Nat) : sumL (xs.take j) ≤ sumL xs := by
  have := sumL_append (xs.take j) (xs.drop j)
  rw [List.take_append_drop] at this
  omega
theorem sumLL_take_le (xs : List (List ByteArray)) (j : Nat) : sumLL (xs.take j) ≤ sumLL xs := by
  have := sumLL_append (xs.take j) (xs.drop j)
  rw [List.take_append_drop] at this
  omega

set_option maxHeartbeats 400000 in
theorem few_sum (A : Option Addr) (c : Nat) (xs : List (List ByteArray)) (w : World) (hC : (Kd.slice 9 Kd.string).C w A xs.length xs) (hs : sumLL xs ≤ 9223372036854775807) :
    Calls Tryd.prog 14 #[.slice A xs.length c] w (BoolIf (sumLL xs ≤ 4000) w) := by
  have hm := hC.2.1
  have HC := Lib.hid hC
  clear hC
  go_enter Tryd.func14, Tryd.ntmps14
  go_wp2
  go_loopw [3, 8] (fun n i wr => ∃ k : Nat, k ≤ xs.length ∧ i = .int .i64 k ∧ n = .int .i64 (sumLL (xs.take k) : Nat) ∧ Below w.heap.size w wr) (fun _ i _ => xs.length - (intOf i).toNat)
  case atStart => exact ⟨0, Nat.zero_le _, rfl, rfl, Below.refl _ _⟩
  case round =>
    obtain ⟨k, hk, rfl, rfl, hbel⟩ := hrel
    by_cases hlt : k < xs.length
    · obtain ⟨ad, A', c', rfl, hs', hl', hC'⟩ := rows_at HC.out k hlt
      have hs'' := (hbel.cell (World.block_lt_of_cell? w _ hs')).trans hs'
      have HS := Lib.hid hs'
      have HC' := Lib.hid hC'
      have hm' := hC'.2.1
      have HL := Lib.hid hbel
      have hnx := sumLL_take_succ hlt
      have htl := sumLL_take_le xs (k + 1)
      clear hs' hl' hC' hbel
      obtain ⟨S0, hS0⟩ : ∃ S0 : Nat, S0 = sumLL (xs.take k) := ⟨_, rfl⟩
      rw [← hS0] at hnx ⊢
      go_wp2
      obtain ⟨wo, hwo⟩ : ∃ wo : World, wo = wr := ⟨_, rfl⟩
      subst hwo
      go_loopw [3, 16] (fun n i wi => ∃ j : Nat, j ≤ xs[k].length ∧ i = .int .i64 j ∧ n = .int .i64 (S0 + sumL (xs[k].take j) : Nat) ∧ Below w.heap.size w wi) (fun _ i _ => xs[k].length - (intOf i).toNat)
      case atStart => exact ⟨0, Nat.zero_le _, rfl, by simp [sumL], HL.out⟩
      case round =>
        obtain ⟨j, hj, rfl, rfl, hbel⟩ := hrel
        by_cases hjl : j < xs[k].length
        · obtain ⟨ad2, rfl, hs2⟩ := strs_at HC'.out j hjl
          have h1 := (hbel.cell (World.block_lt_of_cell? w _ hs2)).trans hs2
          have h2 := (hbel.cell (World.block_lt_of_cell? w _ HS.out)).trans HS.out
          have hnj := sumL_take_succ hjl
          have htj := sumL_take_le xs[k] (j + 1)
          obtain ⟨S1, hS1⟩ : ∃ S1 : Nat, S1 = S0 + sumL (xs[k].take j) := ⟨_, rfl⟩
          rw [← hS1]
          have hz : S1 + xs[k][j].size + 1 ≤ 9223372036854775807 := by omega
          clear hs'' hs2
          go_wp2
          refine ⟨⟨j + 1, by omega, by go_num, ?_, hbel⟩, by simp [intOf]; omega⟩
          rw [hnj, show S0 + (sumL (xs[k].take j) + xs[k][j].size + 1) = S1 + xs[k][j].size + 1 by omega]
          congr 1
          omega
        · clear hs''
          obtain rfl : j = xs[k].length := by omega
          go_wp2
          refine ⟨⟨k + 1, by omega, by go_num, ?_, hbel⟩, by simp [intOf]; omega⟩
          rw [hnx, List.take_length]
    · obtain rfl : k = xs.length := by omega
      have ht : xs.take xs.length = xs := List.take_length
      obtain ⟨S0, hS0⟩ : ∃ S0 : Nat, S0 = sumLL xs := ⟨_, rfl⟩
      rw [ht, ← hS0]
      go_wp2
      go_ret
      exact ⟨_, rfl, fun h => by rw [← hS0]; have := of_decide_eq_true h; omega, hbel⟩

/-- No byte 0. -/
def noZ (s : ByteArray) : Prop := ∀ a ∈ bl s, 1 ≤ a
theorem noZ_of {s : ByteArray} (h : ∀ i (hi : i < s.size), s[i].toNat ≠ 0) : noZ s := by
  intro a ha
  obtain ⟨b, hb, rfl⟩ := List.mem_map.1 ha
  obtain ⟨i, hi, rfl⟩ := List.mem_iff_getElem.1 hb
  have hi' : i < s.size := by simpa using hi
  have := h i hi'
  have e : s[i] = s.data.toList[i] := rfl
  rw [e] at this
  omega

theorem noZ_at {s : ByteArray} (h : noZ s) {i : Nat} (hi : i < s.size) : s[i].toNat ≠ 0 := by
  have e : s[i] = s.data.toList[i]'(by simpa using hi) := rfl
  have := h s[i].toNat (List.mem_map.2 ⟨s[i], by rw [e]; exact List.getElem_mem _, rfl⟩)
  omega
end Go.Proofs.YtjifoimkjgepcaaDoor.Da
