/-
  The walks of the laws' guards of tries: few (with its sum), within, clean, goodIDs.
-/
import Derived.Test.YtjifoimkjgepcaaFits
import Derived.Test.YtjifoimkjgepcaaDy
set_option linter.unusedVariables false
set_option linter.unusedSimpArgs false
namespace Go.Proofs.Ytjifoimkjgepcaa.Da
open Go.RowKit Go.Proofs.Ytjifoimkjgepcaa.K Go.Proofs.YtjifoimkjgepcaaW.PrintWords

/-- What the texts of a list weigh. -/
def sumL : List ByteArray → Nat
  | [] => 0
  | s :: r => s.size + 1 + sumL r
def sumLL : List (List ByteArray) → Nat
  | [] => 0
  | l :: r => sumL l + sumLL r
theorem sumL_append (a b : List ByteArray) : sumL (a ++ b) = sumL a + sumL b := by
  induction a with
  | nil => simp [sumL]
  | cons x r ih => simp only [List.cons_append, sumL, ih]; omega
theorem sumLL_append (a b : List (List ByteArray)) : sumLL (a ++ b) = sumLL a + sumLL b := by
  induction a with
  | nil => simp [sumLL]
  | cons x r ih => simp only [List.cons_append, sumLL, ih]; omega
theorem sumL_le {xs : List ByteArray} (h : ∀ x ∈ xs, x.size ≤ 2147483647) : sumL xs ≤ xs.length * 2147483648 := by
  induction xs with
  | nil => simp [sumL]
  | cons x r ih =>
    have h1 := h x (List.mem_cons_self ..)
    have h2 := ih fun y hy => h y (List.mem_cons_of_mem _ hy)
    simp only [sumL, List.length_cons]
    omega
theorem sumL_fits {xs : List ByteArray} (h : fits3 xs) : sumL xs ≤ 4611686016279904256 := by
  have h1 := sumL_le h.2
  have h2 := h.1
  omega
theorem sumLL_le {xs : List (List ByteArray)} (h : ∀ x ∈ xs, fits3 x) : sumLL xs ≤ xs.length * 4611686016279904256 := by
  induction xs with
  | nil => simp [sumLL]
  | cons x r ih =>
    have h1 := sumL_fits (h x (List.mem_cons_self ..))
    have h2 := ih fun y hy => h y (List.mem_cons_of_mem _ hy)
    simp only [sumLL, List.length_cons]
    omega
theorem sumL_take_succ {xs : List ByteArray} {j : Nat} (h : j < xs.length) : sumL (xs.take (j + 1)) = sumL (xs.take j) + xs[j].size + 1 := by
  rw [List.take_succ_eq_append_getElem h, sumL_append]
  simp only [sumL]
  omega
theorem sumLL_take_succ {xs : List (List ByteArray)} {j : Nat} (h : j < xs.length) : sumLL (xs.take (j + 1)) = sumLL (xs.take j) + sumL xs[j] := by
  rw [List.take_succ_eq_append_getElem h, sumLL_append]
  simp only [sumLL]
  omega
theorem sumL_take_le (xs : List ByteArray) (j : Nat) : sumL (xs.take j) ≤ sumL xs := by
  have := sumL_append (xs.take j) (xs.drop j)
  rw [List.take_append_drop] at this
  omega
theorem sumLL_take_le (xs : List (List ByteArray)) (j : Nat) : sumLL (xs.take j) ≤ sumLL xs := by
  have := sumLL_append (xs.take j) (xs.drop j)
  rw [List.take_append_drop] at this
  omega

set_option maxHeartbeats 400000 in
theorem few_sum (A : Option Addr) (c : Nat) (xs : List (List ByteArray)) (w : World) (hC : (Kd.slice 9 Kd.string).C w A xs.length xs) (hs : sumLL xs ≤ 9223372036854775807) :
    Calls Try.prog 19 #[.slice A xs.length c] w (BoolIf (sumLL xs ≤ 4000) w) := by
  have hm := hC.2.1
  have HC := Lib.hid hC
  clear hC
  go_enter Try.func19, Try.ntmps19
  go_wp2
  go_loopw [3, 8] (fun n i wr => ∃ k : Nat, k ≤ xs.length ∧ i = .int .i64 k ∧ n = .int .i64 (sumLL (xs.take k) : Nat) ∧ Below w.heap.size w wr) (fun _ i _ => xs.length - (intOf i).toNat)
  case atStart => exact ⟨0, Nat.zero_le _, rfl, rfl, Below.refl _ _⟩
  case round =>
    obtain ⟨k, hk, rfl, rfl, hbel⟩ := hrel
    by_cases hlt : k < xs.length
    · obtain ⟨ad, A', c', rfl, hs', hl', hC'⟩ := rows_at HC.out k hlt
      have hs'' := (hbel.cell (World.block_lt_of_cell? w _ hs')).trans hs'
      have HS := Lib.hid hs'
      have HC' := Lib.hid hC'
      have hm' := hC'.2.1
      have HL := Lib.hid hbel
      have hnx := sumLL_take_succ hlt
      have htl := sumLL_take_le xs (k + 1)
      clear hs' hl' hC' hbel
      obtain ⟨S0, hS0⟩ : ∃ S0 : Nat, S0 = sumLL (xs.take k) := ⟨_, rfl⟩
      rw [← hS0] at hnx ⊢
      go_wp2
      obtain ⟨wo, hwo⟩ : ∃ wo : World, wo = wr := ⟨_, rfl⟩
      subst hwo
      go_loopw [3, 16] (fun n i wi => ∃ j : Nat, j ≤ xs[k].length ∧ i = .int .i64 j ∧ n = .int .i64 (S0 + sumL (xs[k].take j) : Nat) ∧ Below w.heap.size w wi) (fun _ i _ => xs[k].length - (intOf i).toNat)
      case atStart => exact ⟨0, Nat.zero_le _, rfl, by simp [sumL], HL.out⟩
      case round =>
        obtain ⟨j, hj, rfl, rfl, hbel⟩ := hrel
        by_cases hjl : j < xs[k].length
        · obtain ⟨ad2, rfl, hs2⟩ := strs_at HC'.out j hjl
          have h1 := (hbel.cell (World.block_lt_of_cell? w _ hs2)).trans hs2
          have h2 := (hbel.cell (World.block_lt_of_cell? w _ HS.out)).trans HS.out
          have hnj := sumL_take_succ hjl
          have htj := sumL_take_le xs[k] (j + 1)
          obtain ⟨S1, hS1⟩ : ∃ S1 : Nat, S1 = S0 + sumL (xs[k].take j) := ⟨_, rfl⟩
          rw [← hS1]
          have hz : S1 + xs[k][j].size + 1 ≤ 9223372036854775807 := by omega
          clear hs'' hs2
          go_wp2
          refine ⟨⟨j + 1, by omega, by go_num, ?_, hbel⟩, by simp [intOf]; omega⟩
          rw [hnj, show S0 + (sumL (xs[k].take j) + xs[k][j].size + 1) = S1 + xs[k][j].size + 1 by omega]
          congr 1
          omega
        · clear hs''
          obtain rfl : j = xs[k].length := by omega
          go_wp2
          refine ⟨⟨k + 1, by omega, by go_num, ?_, hbel⟩, by simp [intOf]; omega⟩
          rw [hnx, List.take_length]
    · obtain rfl : k = xs.length := by omega
      have ht : xs.take xs.length = xs := List.take_length
      obtain ⟨S0, hS0⟩ : ∃ S0 : Nat, S0 = sumLL xs := ⟨_, rfl⟩
      rw [ht, ← hS0]
      go_wp2
      go_ret
      exact ⟨_, rfl, fun h => by rw [← hS0]; have := of_decide_eq_true h; omega, hbel⟩

/-- No byte 0. -/
def noZ (s : ByteArray) : Prop := ∀ a ∈ bl s, 1 ≤ a
theorem noZ_of {s : ByteArray} (h : ∀ i (hi : i < s.size), s[i].toNat ≠ 0) : noZ s := by
  intro a ha
  obtain ⟨b, hb, rfl⟩ := List.mem_map.1 ha
  obtain ⟨i, hi, rfl⟩ := List.mem_iff_getElem.1 hb
  have hi' : i < s.size := by simpa using hi
  have := h i hi'
  have e : s[i] = s.data.toList[i] := rfl
  rw [e] at this
  omega

theorem noZ_at {s : ByteArray} (h : noZ s) {i : Nat} (hi : i < s.size) : s[i].toNat ≠ 0 := by
  have e : s[i] = s.data.toList[i]'(by simpa using hi) := rfl
  have := h s[i].toNat (List.mem_map.2 ⟨s[i], by rw [e]; exact List.getElem_mem _, rfl⟩)
  omega
set_option maxHeartbeats 400000 in
theorem within_any (s : ByteArray) (w : World) (hb : s.size ≤ 2147483647) :
    Calls Try.prog 44 #[.string s, .int .u8 0] w fun e w' => ∃ b : Bool, e = .returned (.bool b) ∧ (b = false ↔ noZ s) ∧ w' = w := by
  go_enter Try.func44, Try.ntmps44
  go_wp2
  go_loopw [8] (fun i wr => ∃ k : Nat, k ≤ s.size ∧ i = .int .i64 k ∧ Hid (∀ i (hi : i < s.size), i < k → s[i].toNat ≠ 0) ∧ w = wr) (fun i _ => s.size - (intOf i).toNat)
  case atStart => exact ⟨0, Nat.zero_le _, rfl, Lib.hid (fun i _ hi => absurd hi (by omega)), rfl⟩
  case round =>
    obtain ⟨k, hk, rfl, hall, hw⟩ := hrel
    by_cases hlt : k < s.size
    · by_cases hz : s[k].toNat = 0
      · have hz' : ((s[k].toNat : Int) == 0) = true := by rw [beq_iff_eq]; omega
        have HZ := Lib.hid hz
        clear hz
        go_wp2
        go_ret
        exact ⟨true, rfl, ⟨by simp, fun h => absurd HZ.out (noZ_at h hlt)⟩, hw.symm⟩
      · have hz' : ((s[k].toNat : Int) == 0) = false := by rw [beq_eq_false_iff_ne]; omega
        have HZ := Lib.hid hz
        clear hz
        go_wp2
        refine ⟨⟨k + 1, by omega, by go_num, Lib.hid (fun i hi hik => ?_), hw⟩, by simp [intOf]; omega⟩
        by_cases e : i = k
        · subst e; exact HZ.out
        · exact hall.out i hi (by omega)
    · go_wp2
      go_ret
      exact ⟨false, rfl, ⟨fun _ => noZ_of fun i hi => hall.out i hi (by omega), fun _ => rfl⟩, hw.symm⟩

set_option maxHeartbeats 400000 in
theorem clean_any (A : Option Addr) (c : Nat) (xs : List ByteArray) (w : World) (hC : Kd.string.C w A xs.length xs) (hb : fits3 xs) :
    Calls Try.prog 22 #[.slice A xs.length c] w fun e w' => ∃ b : Bool, e = .returned (.bool b) ∧ (b = true ↔ ∀ x ∈ xs, noZ x) ∧ w' = w := by
  have hm := hC.2.1
  have HC := Lib.hid hC
  have hbl := hb.1
  have HB := Lib.hid hb
  clear hC hb
  go_enter Try.func22, Try.ntmps22
  go_wp2
  go_loopw [6] (fun i wr => ∃ k : Nat, k ≤ xs.length ∧ i = .int .i64 k ∧ Hid (∀ x ∈ xs.take k, noZ x) ∧ w = wr) (fun i _ => xs.length - (intOf i).toNat)
  case atStart => exact ⟨0, Nat.zero_le _, rfl, Lib.hid (by simp), rfl⟩
  case round =>
    obtain ⟨k, hk, rfl, hall, hw⟩ := hrel
    by_cases hlt : k < xs.length
    · obtain ⟨ad, rfl, hs⟩ := strs_at HC.out k hlt
      have hs' : wr.cell? (ad.add k) = some (.string xs[k]) := by rw [← hw]; exact hs
      have hsz := HB.out.2 _ (List.getElem_mem hlt)
      have HW := Lib.hid hw
      clear hs hw
      go_wp2_with fail
      refine (within_any xs[k] wr hsz).mono ?_
      rintro e w1 ⟨b, rfl, hbz, rfl⟩
      have HZ := Lib.hid hbz
      clear hbz
      cases b
      · go_wp2
        refine ⟨⟨k + 1, by omega, by go_num, Lib.hid (all_take hlt hall.out (HZ.out.1 trivial)), HW.out⟩, by simp [intOf]; omega⟩
      · go_wp2
        go_ret
        exact ⟨false, rfl, ⟨by simp, fun h => absurd (HZ.out.2 (h _ (List.getElem_mem hlt))) (by simp)⟩, HW.out.symm⟩
    · go_wp2
      go_ret
      obtain rfl : k = xs.length := by omega
      have := hall.out
      rw [List.take_length] at this
      exact ⟨true, rfl, ⟨fun _ => this, fun _ => rfl⟩, hw.symm⟩

set_option maxHeartbeats 400000 in
theorem goodIDs_any (A : Option Addr) (c : Nat) (xs : List Int) (n : Nat) (w : World) (hC : (Kd.int .i64).C w A xs.length xs) (hn : n ≤ 2147483647) :
    Calls Try.prog 21 #[.slice A xs.length c, .int .i64 n] w fun e w' => ∃ b : Bool, e = .returned (.bool b) ∧ (b = true → (∀ x ∈ xs, 0 ≤ x ∧ x ≤ 2147483647) ∧ xs.length = n) ∧ w' = w := by
  have hm := hC.2.1
  have HC := Lib.hid hC
  clear hC
  go_enter Try.func21, Try.ntmps21
  go_wp2
  go_loopw [9, 6] (fun i x wr => ∃ k : Nat, k ≤ xs.length ∧ i = .int .i64 k ∧ Hid (∀ x ∈ xs.take k, 0 ≤ x ∧ x ≤ 2147483647) ∧ w = wr) (fun i _ _ => xs.length - (intOf i).toNat)
  case atStart => exact ⟨0, Nat.zero_le _, rfl, Lib.hid (by simp), rfl⟩
  case round =>
    obtain ⟨k, hk, rfl, hall, hw⟩ := hrel
    by_cases hlt : k < xs.length
    · obtain ⟨ad, rfl, hs⟩ := ints_at HC.out k hlt
      have hs' : wr.cell? (ad.add k) = some (.int .i64 xs[k]) := by rw [← hw]; exact hs
      have HW := Lib.hid hw
      obtain ⟨y, hy⟩ : ∃ y, y = xs[k] := ⟨_, rfl⟩
      rw [← hy] at hs'
      have HY := Lib.hid hy
      clear hs hw hy
      by_cases h0 : y < 0
      · go_wp2
        go_ret
        exact ⟨false, rfl, by simp, HW.out.symm⟩
      · by_cases h1 : 2147483647 < y
        · go_wp2
          go_ret
          exact Or.inl ⟨rfl, HW.out.symm⟩
        · have H01 := Lib.hid (And.intro (Int.not_lt.1 h0) (Int.not_lt.1 h1))
          go_wp2
          refine ⟨⟨k + 1, by omega, by go_num, Lib.hid (all_take hlt hall.out (HY.out ▸ H01.out)), HW.out⟩, by simp [intOf]; omega⟩
    · obtain rfl : k = xs.length := by omega
      by_cases he : xs.length = n
      · go_wp2
        go_ret
        have := hall.out
        rw [List.take_length] at this
        exact ⟨true, by simp [he], fun _ => ⟨this, he⟩, hw.symm⟩
      · go_wp2
        go_ret
        exact ⟨false, by simp; omega, by simp, hw.symm⟩
end Go.Proofs.Ytjifoimkjgepcaa.Da
