/-
  The walk of laws.same[bool].
-/
import Derived.Test.YtjifoimkjgepcaaK
import Derived.Test.YtjifoimkjgepcaaRows
import Derived.Outline
import Derived.Deep.QuietTactic
import Derived.BigQuiet
set_option linter.unusedVariables false
set_option linter.unusedSimpArgs false
namespace Go.Proofs.Ytjifoimkjgepcaa.K
open Go.RowKit Go.Proofs.YtjifoimkjgepcaaW.PrintWords

theorem atSameBool {w : World} {A : Option Addr} {n : Nat} {xs : List Bool} (h : (Kd.bool).C w A n xs) : ∀ j (hj : j < xs.length), ∃ ad, A = some ad ∧ w.cell? (ad.add j) = some (Value.bool xs[j]) := by
  intro j hj
  obtain ⟨ad, hA, hc⟩ := h.2.2 (by have := h.1; omega)
  obtain ⟨c, hl, hk, hcell⟩ := hc j xs[j] (List.getElem?_eq_getElem hj)
  have hk' : c = [Value.bool xs[j]] := hk
  subst hk'
  have := hcell 0 _ rfl
  have e : (Kd.bool).sz = 1 := rfl
  rw [e, Nat.mul_one, Nat.add_zero] at this
  exact ⟨ad, hA, this⟩

set_option maxHeartbeats 400000 in
theorem sameBool_any (A B : Option Addr) (c c' : Nat) (xs ys : List Bool) (w : World) (hC : (Kd.bool).C w A xs.length xs) (hD : (Kd.bool).C w B ys.length ys) :
    Calls Try.prog 36 #[.slice A xs.length c, .slice B ys.length c'] w fun e w' => e = .returned (.bool (decide (xs = ys))) ∧ Below w.heap.size w w' := by
  have hm := hC.2.1
  have hm' := hD.2.1
  have HC := Lib.hid hC
  have HD := Lib.hid hD
  clear hC hD
  go_enter Try.func36, Try.ntmps36
  by_cases hl : xs.length = ys.length
  rotate_left
  · have ht : ((xs.length : Int) != (ys.length : Int)) = true := by simp; omega
    have HL := Lib.hid hl
    clear hl
    go_wp2
    go_ret
    exact ⟨by rw [decide_eq_false (fun e => HL.out (by rw [e]))]; rfl, Below.refl _ _⟩
  have ht : ((xs.length : Int) != (ys.length : Int)) = false := by simp; omega
  have HL := Lib.hid hl
  clear hl
  go_wp2
  go_loopw [13] (fun i wr => ∃ k : Nat, k ≤ xs.length ∧ i = .int .i64 k ∧ Hid (xs.take k = ys.take k) ∧ Below w.heap.size w wr) (fun i _ => xs.length - (intOf i).toNat)
  case atStart => exact ⟨0, Nat.zero_le _, rfl, Lib.hid (by simp), Below.refl _ _⟩
  case round =>
    obtain ⟨k, hk, rfl, hall, hbel⟩ := hrel
    by_cases hlt : k < xs.length
    · have hlt' : k < ys.length := by have := HL.out; omega
      obtain ⟨ad, rfl, hs⟩ := atSameBool HC.out k hlt
      obtain ⟨bd, rfl, hs2⟩ := atSameBool HD.out k hlt'
      have hs' := (hbel.cell (World.block_lt_of_cell? w _ hs)).trans hs
      have hs2' := (hbel.cell (World.block_lt_of_cell? w _ hs2)).trans hs2
      clear hs hs2
      have p0 : (0 : Int) ≤ k := by omega
      have p1 : (k : Int) < (xs.length : Int) := by omega
      have p2 : (k : Int) < (ys.length : Int) := by omega
      by_cases hx : xs[k] = ys[k]
      · have hq : (xs[k] == ys[k]) = true := by simpa using hx
        have hq2 : (xs[k] != ys[k]) = false := by rw [bne, hq]; rfl
        have HX := Lib.hid hx
        clear hx
        go_wp2
        go_quiet (fail)
        go_wp2
        refine ⟨⟨k + 1, by omega, by go_num, Lib.hid ?_, pw_below_drewN hbel _⟩, by simp [intOf]; omega⟩
        rw [List.take_succ_eq_append_getElem hlt, List.take_succ_eq_append_getElem hlt', hall.out, HX.out]
      · have hq : (xs[k] == ys[k]) = false := by simpa using hx
        have hq2 : (xs[k] != ys[k]) = true := by rw [bne, hq]; rfl
        have HX := Lib.hid hx
        clear hx
        go_wp2
        go_quiet (fail)
        go_wp2
        go_ret
        refine ⟨by rw [decide_eq_false (fun e => HX.out (by simp [e]))]; rfl, pw_below_drewN hbel _⟩
    · go_wp2
      go_ret
      obtain rfl : k = xs.length := by omega
      have h := hall.out
      rw [List.take_length, HL.out, List.take_length] at h
      exact ⟨by rw [decide_eq_true h]; rfl, hbel⟩
end Go.Proofs.Ytjifoimkjgepcaa.K
