/-
  The walks of the laws' small functions that only look: zzFits3, zzFits6, few, smallLists.
-/
import Derived.Test.YtjifoimkjgepcaaK
import Derived.Test.YtjifoimkjgepcaaRows
import Derived.Outline
set_option linter.unusedVariables false
set_option linter.unusedSimpArgs false
namespace Go.Proofs.Ytjifoimkjgepcaa.K
open Go.RowKit Go.Proofs.YtjifoimkjgepcaaW.PrintWords

/-- Some bool is returned; where it is true, p. -/
def BoolIf (p : Prop) (w : World) (e : Ending) (w' : World) : Prop := ∃ b : Bool, e = .returned (.bool b) ∧ (b = true → p) ∧ Below w.heap.size w w'

def fits3 (xs : List ByteArray) : Prop := xs.length ≤ 2147483647 ∧ ∀ x ∈ xs, x.size ≤ 2147483647
def fits6 (xs : List (List ByteArray)) : Prop := xs.length ≤ 2147483647 ∧ ∀ x ∈ xs, fits3 x

theorem all_take {α : Type} {p : α → Prop} {xs : List α} {k : Nat} (hk : k < xs.length) (h : ∀ x ∈ xs.take k, p x) (hx : p xs[k]) : ∀ x ∈ xs.take (k + 1), p x := by
  intro x hm
  rw [List.take_succ_eq_append_getElem hk] at hm
  rcases List.mem_append.1 hm with hm | hm
  · exact h x hm
  · rw [List.mem_singleton] at hm; subst hm; exact hx

set_option maxHeartbeats 400000 in
theorem zzFits3_any (A : Option Addr) (c : Nat) (xs : List ByteArray) (w : World) (hC : Kd.string.C w A xs.length xs) :
    Calls Try.prog 18 #[.slice A xs.length c] w (BoolIf (fits3 xs) w) := by
  have hm := hC.2.1
  have HC := Lib.hid hC
  clear hC
  go_enter Try.func18, Try.ntmps18
  by_cases hbig : 2147483647 < xs.length
  · go_wp2
    go_ret
    exact ⟨false, rfl, by simp, Below.refl _ _⟩
  go_wp2
  go_loopw [10] (fun i wr => ∃ k : Nat, k ≤ xs.length ∧ i = .int .i64 k ∧ Hid (∀ x ∈ xs.take k, x.size ≤ 2147483647) ∧ Below w.heap.size w wr) (fun i _ => xs.length - (intOf i).toNat)
  case atStart => exact ⟨0, Nat.zero_le _, rfl, Lib.hid (by simp), Below.refl _ _⟩
  case round =>
    obtain ⟨k, hk, rfl, hall, hbel⟩ := hrel
    by_cases hlt : k < xs.length
    · obtain ⟨ad, rfl, hs⟩ := strs_at HC.out k hlt
      have hs' := (hbel.cell (World.block_lt_of_cell? w _ hs)).trans hs
      clear hs
      by_cases hx : 2147483647 < xs[k].size
      · go_wp2
        go_ret
        exact ⟨false, rfl, by simp, hbel⟩
      · have HX := Lib.hid (Nat.le_of_not_lt hx)
        go_wp2
        refine ⟨⟨k + 1, by omega, by go_num, Lib.hid (all_take hlt hall.out HX.out), hbel⟩, by simp [intOf]; omega⟩
    · go_wp2
      go_ret
      obtain rfl : k = xs.length := by omega
      have := hall.out
      rw [List.take_length] at this
      exact ⟨true, rfl, fun _ => ⟨by omega, this⟩, hbel⟩

set_option maxHeartbeats 400000 in
theorem zzFits6_any (A : Option Addr) (c : Nat) (xs : List (List ByteArray)) (w : World) (hC : (Kd.slice 9 Kd.string).C w A xs.length xs) :
    Calls Try.prog 13 #[.slice A xs.length c] w (BoolIf (fits6 xs) w) := by
  have hm := hC.2.1
  have HC := Lib.hid hC
  clear hC
  go_enter Try.func13, Try.ntmps13
  by_cases hbig : 2147483647 < xs.length
  · go_wp2
    go_ret
    exact ⟨false, rfl, by simp, Below.refl _ _⟩
  go_wp2
  go_loopw [10] (fun i wr => ∃ k : Nat, k ≤ xs.length ∧ i = .int .i64 k ∧ Hid (∀ x ∈ xs.take k, fits3 x) ∧ Below w.heap.size w wr) (fun i _ => xs.length - (intOf i).toNat)
  case atStart => exact ⟨0, Nat.zero_le _, rfl, Lib.hid (by simp), Below.refl _ _⟩
  case round =>
    obtain ⟨k, hk, rfl, hall, hbel⟩ := hrel
    by_cases hlt : k < xs.length
    · obtain ⟨ad, A', c', rfl, hs, hl', hC'⟩ := rows_at HC.out k hlt
      have hs' := (hbel.cell (World.block_lt_of_cell? w _ hs)).trans hs
      have HC' := Lib.hid (Kd.C_below hC' hbel)
      have hsz := hbel.size
      clear hs hl' hC'
      go_wp2_with fail
      refine (zzFits3_any A' c' xs[k] wr HC'.out).mono ?_
      rintro e w1 ⟨b, rfl, hb, hw1⟩
      have HB := Lib.hid hb
      have HL := Lib.hid (hbel.trans (hw1.mono hsz))
      clear hs' hb hw1 hbel
      cases b
      · go_wp2
        go_ret
        exact ⟨false, rfl, by simp, HL.out⟩
      · go_wp2
        refine ⟨⟨k + 1, by omega, by go_num, Lib.hid (all_take hlt hall.out (HB.out trivial)), HL.out⟩, by simp [intOf]; omega⟩
    · go_wp2
      go_ret
      obtain rfl : k = xs.length := by omega
      have := hall.out
      rw [List.take_length] at this
      exact ⟨true, rfl, fun _ => ⟨by omega, this⟩, hbel⟩

set_option maxHeartbeats 400000 in
theorem few_any (A : Option Addr) (c : Nat) (xs : List (List ByteArray)) (w : World) (hC : (Kd.slice 9 Kd.string).C w A xs.length xs) :
    Calls Try.prog 19 #[.slice A xs.length c] w (BoolIf True w) := by
  have hm := hC.2.1
  have HC := Lib.hid hC
  clear hC
  go_enter Try.func19, Try.ntmps19
  go_wp2
  go_loopw [3, 8] (fun n i wr => ∃ k : Nat, k ≤ xs.length ∧ i = .int .i64 k ∧ (∃ x, n = .int .i64 x) ∧ Below w.heap.size w wr) (fun _ i _ => xs.length - (intOf i).toNat)
  case atStart => exact ⟨0, Nat.zero_le _, rfl, ⟨_, rfl⟩, Below.refl _ _⟩
  case round =>
    obtain ⟨k, hk, rfl, ⟨x, rfl⟩, hbel⟩ := hrel
    by_cases hlt : k < xs.length
    · obtain ⟨ad, A', c', rfl, hs, hl', hC'⟩ := rows_at HC.out k hlt
      have hs' := (hbel.cell (World.block_lt_of_cell? w _ hs)).trans hs
      have HS := Lib.hid hs
      have HC' := Lib.hid hC'
      have hm' := hC'.2.1
      have HL := Lib.hid hbel
      clear hs hl' hC' hbel
      go_wp2
      obtain ⟨wo, hwo⟩ : ∃ wo : World, wo = wr := ⟨_, rfl⟩
      subst hwo
      go_loopw [3, 16] (fun n i wi => ∃ j : Nat, j ≤ xs[k].length ∧ i = .int .i64 j ∧ (∃ x, n = .int .i64 x) ∧ Below w.heap.size w wi) (fun _ i _ => xs[k].length - (intOf i).toNat)
      case atStart => exact ⟨0, Nat.zero_le _, rfl, ⟨_, rfl⟩, HL.out⟩
      case round =>
        obtain ⟨j, hj, rfl, ⟨y, rfl⟩, hbel⟩ := hrel
        by_cases hjl : j < xs[k].length
        · obtain ⟨ad2, rfl, hs2⟩ := strs_at HC'.out j hjl
          have h1 := (hbel.cell (World.block_lt_of_cell? w _ hs2)).trans hs2
          have h2 := (hbel.cell (World.block_lt_of_cell? w _ HS.out)).trans HS.out
          clear hs' hs2
          go_wp2
          refine ⟨⟨j + 1, by omega, by go_num, ⟨_, rfl⟩, hbel⟩, by simp [intOf]; omega⟩
        · clear hs'
          go_wp2
          refine ⟨⟨k + 1, by omega, by go_num, ⟨_, rfl⟩, hbel⟩, by simp [intOf]; omega⟩
    · go_wp2
      go_ret
      exact ⟨_, rfl, fun _ => trivial, hbel⟩

set_option maxHeartbeats 400000 in
theorem smallLists_any (A : Option Addr) (c : Nat) (xs : List (List ByteArray)) (w : World) (hC : (Kd.slice 9 Kd.string).C w A xs.length xs) :
    Calls Try.prog 14 #[.slice A xs.length c] w (BoolIf True w) := by
  have hm := hC.2.1
  have HC := Lib.hid hC
  clear hC
  go_enter Try.func14, Try.ntmps14
  by_cases h : xs.length ≤ 30
  · go_wp2_with fail
    refine (few_any A c xs w HC.out).mono ?_
    rintro e w1 ⟨b, rfl, _, hw1⟩
    have HW := Lib.hid hw1
    clear hw1
    go_wp2
    go_ret
    exact ⟨_, rfl, fun _ => trivial, HW.out⟩
  · go_wp2
    go_ret
    exact ⟨_, rfl, fun _ => trivial, Below.refl _ _⟩
end Go.Proofs.Ytjifoimkjgepcaa.K
