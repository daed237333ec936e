/-
  The walks of laws.same[impl.Hit] (where both are equal) and laws.builds.
-/
import Derived.Test.YtjifoimkjgepcaaDoorEa
import Derived.Test.YtjifoimkjgepcaaDoorEc
import Derived.Test.YtjifoimkjgepcaaDoorWEqStruct
import Derived.Outline
import Derived.Deep.QuietTactic
import Derived.BigQuiet
import Derived.Laws.StructEq
set_option linter.unusedVariables false
set_option linter.unusedSimpArgs false
namespace Go.Proofs.YtjifoimkjgepcaaDoor.Da
open Go.RowKit Go.ChangeShapes Go.Proofs.YtjifoimkjgepcaaDoor.K Go.Proofs.YtjifoimkjgepcaaDoorW.PrintWords

theorem eqHit_run (a b : Int) (W : World) : (Op.equalIn 10000 tHit (.agg #[.int .i64 a, .int .i64 b]) (.agg #[.int .i64 a, .int .i64 b])).run Tryd.prog W = .ok true W := by
  have h : ∀ v : Int, (Op.equalIn 9999 3 (.int .i64 v) (.int .i64 v)).run Tryd.prog W = .ok true W := fun v => by
    have := run_equalIn_int (P := Tryd.prog) W 9998 3 .i64 .i64 v v Tryd.underlying3
    simpa using this
  exact eqA_of Tryd.underlying54 (by kernel_rfl) (eqf_cons (r := true) (s := true) rfl (a := .int .i64 a) (by kernel_rfl) (b := .int .i64 a) (by kernel_rfl) (h a) (eqf_last rfl (a := .int .i64 b) (by kernel_rfl) (b := .int .i64 b) (by kernel_rfl) (h b)))
theorem hits_at {w : World} {A : Option Addr} {n : Nat} {xs : List Hit} (h : kHit.C w A n xs) : ∀ j (hj : j < xs.length), ∃ ad, A = some ad ∧
    w.cell? (ad.add (j * 2)) = some (.int .i64 xs[j].1) ∧ w.cell? ⟨(ad.add (j * 2)).block, (ad.add (j * 2)).off + 1, none⟩ = some (.int .i64 xs[j].2) := by
  intro j hj
  obtain ⟨ad, hA, hc⟩ := h.2.2 (by have := h.1; omega)
  obtain ⟨c, hl, hk, hcell⟩ := hc j xs[j] (List.getElem?_eq_getElem hj)
  obtain ⟨_, _, rfl, rfl, rfl⟩ := hk
  have e : kHit.sz = 2 := rfl
  rw [e] at hcell
  have h0 := hcell 0 _ rfl
  have h1 := hcell 1 _ rfl
  rw [Nat.add_zero] at h0
  rw [add_field _ _ _ (by decide)] at h1
  exact ⟨ad, hA, h0, h1⟩

set_option maxHeartbeats 1000000 in
set_option maxRecDepth 5000 in
theorem sameHit_eq (A B : Option Addr) (c c' : Nat) (xs : List Hit) (w : World) (hC : kHit.C w A xs.length xs) (hD : kHit.C w B xs.length xs) :
    Calls Tryd.prog 20 #[.slice A xs.length c, .slice B xs.length c'] w fun e w' => e = .returned (.bool true) ∧ Below w.heap.size w w' := by
  have hm := hC.2.1
  have HC := Lib.hid hC
  have HD := Lib.hid hD
  clear hC hD
  go_enter Tryd.func20, Tryd.ntmps20
  go_wp2
  go_loopw [13] (fun i wr => ∃ k : Nat, k ≤ xs.length ∧ i = .int .i64 k ∧ Hid (Below w.heap.size w wr)) (fun i _ => xs.length - (intOf i).toNat)
  case atStart => exact ⟨0, Nat.zero_le _, rfl, Lib.hid (Below.refl _ _)⟩
  case round =>
    obtain ⟨k, hk, rfl, hbel⟩ := hrel
    by_cases hlt : k < xs.length
    · obtain ⟨ad, rfl, h0, h1⟩ := hits_at (Kd.C_below HC.out hbel.out) k hlt
      obtain ⟨bd, rfl, g0, g1⟩ := hits_at (Kd.C_below HD.out hbel.out) k hlt
      have p0 : (0 : Int) ≤ k := by omega
      have p1 : (k : Int) < (xs.length : Int) := by omega
      have heq := eqHit_run xs[k].1 xs[k].2
      go_wp2
      go_quiet (fail)
      go_wp2
      exact ⟨⟨k + 1, by omega, by go_num, Lib.hid (pw_below_drewN hbel.out _)⟩, by simp [intOf]; omega⟩
    · go_wp2
      go_ret
      exact ⟨rfl, hbel.out⟩
end Go.Proofs.YtjifoimkjgepcaaDoor.Da
