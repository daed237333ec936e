/-
  The walk of laws.has[string].
-/
import Derived.Test.YtjifoimkjgepcaaK
import Derived.Test.YtjifoimkjgepcaaRows
import Derived.Outline
import Derived.Deep.QuietTactic
import Derived.BigQuiet
set_option linter.unusedVariables false
set_option linter.unusedSimpArgs false
namespace Go.Proofs.Ytjifoimkjgepcaa.K
open Go.RowKit Go.Proofs.YtjifoimkjgepcaaW.PrintWords

theorem atHasStr {w : World} {A : Option Addr} {n : Nat} {xs : List ByteArray} (h : (Kd.string).C w A n xs) : ∀ j (hj : j < xs.length), ∃ ad, A = some ad ∧ w.cell? (ad.add j) = some (Value.string xs[j]) := by
  intro j hj
  obtain ⟨ad, hA, hc⟩ := h.2.2 (by have := h.1; omega)
  obtain ⟨c, hl, hk, hcell⟩ := hc j xs[j] (List.getElem?_eq_getElem hj)
  have hk' : c = [Value.string xs[j]] := hk
  subst hk'
  have := hcell 0 _ rfl
  have e : (Kd.string).sz = 1 := rfl
  rw [e, Nat.mul_one, Nat.add_zero] at this
  exact ⟨ad, hA, this⟩

set_option maxHeartbeats 400000 in
theorem hasStr_any (A : Option Addr) (c : Nat) (xs : List ByteArray) (x : ByteArray) (w : World) (hC : (Kd.string).C w A xs.length xs) :
    Calls Try.prog 28 #[.slice A xs.length c, .string x] w fun e w' => e = .returned (.bool (memB x xs)) ∧ Below w.heap.size w w' := by
  have hm := hC.2.1
  have HC := Lib.hid hC
  clear hC
  go_enter Try.func28, Try.ntmps28
  go_wp2
  go_loopw [8] (fun i wr => ∃ k : Nat, k ≤ xs.length ∧ i = .int .i64 k ∧ Hid (x ∉ xs.take k) ∧ Below w.heap.size w wr) (fun i _ => xs.length - (intOf i).toNat)
  case atStart => exact ⟨0, Nat.zero_le _, rfl, Lib.hid (by simp), Below.refl _ _⟩
  case round =>
    obtain ⟨k, hk, rfl, hall, hbel⟩ := hrel
    by_cases hlt : k < xs.length
    · obtain ⟨ad, rfl, hs⟩ := atHasStr HC.out k hlt
      have hs' := (hbel.cell (World.block_lt_of_cell? w _ hs)).trans hs
      clear hs
      by_cases hx : xs[k] = x
      · have ht : (xs[k].toList == x.toList) = true := by rw [beq_iff_eq, hx]
        have HM := Lib.hid (show x ∈ xs by rw [← hx]; exact List.getElem_mem hlt)
        clear hx
        go_wp2
        go_ret
        exact ⟨by rw [memB_true HM.out]; rfl, hbel⟩
      · have ht : (xs[k].toList == x.toList) = false := by rw [beq_eq_false_iff_ne]; exact fun e => hx (ba_toList e)
        have HX := Lib.hid hx
        clear hx
        go_wp2
        refine ⟨⟨k + 1, by omega, by go_num, Lib.hid ?_, hbel⟩, by simp [intOf]; omega⟩
        rw [List.take_succ_eq_append_getElem hlt]
        intro hm
        rcases List.mem_append.1 hm with hm | hm
        · exact hall.out hm
        · exact HX.out (List.mem_singleton.1 hm).symm
    · go_wp2
      go_ret
      obtain rfl : k = xs.length := by omega
      have := hall.out
      rw [List.take_length] at this
      exact ⟨by rw [memB_false this]; rfl, hbel⟩
end Go.Proofs.Ytjifoimkjgepcaa.K
