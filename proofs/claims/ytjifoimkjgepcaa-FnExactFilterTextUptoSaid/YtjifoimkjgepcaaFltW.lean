/-
  The walks of has, isLeaf and add over the filters' tree.
-/
import Derived.Test.YtjifoimkjgepcaaFltH
set_option linter.unusedVariables false
set_option linter.unusedSimpArgs false
namespace Go.Proofs.Ytjifoimkjgepcaa.Flt
open Go.RowKit Go.Proofs.Ytjifoimkjgepcaa.K

set_option maxHeartbeats 400000 in
theorem isLeaf_any (A : Option Addr) (n c : Nat) (w : World) :
    Calls Try.prog 90 #[.agg #[.slice A n c]] w fun e w' => e = .returned (.bool A.isNone) ∧ Below w.heap.size w w' := by
  have q := fun (w : World) (a : Option Addr) (n c n' c' : Nat) => Lib.run_eql_slice_nil (P := Try.prog) w _ _ a n c n' c' Try.underlying109
  go_enter Try.func90, Try.ntmps90
  go_wp2
  go_ret
  exact ⟨rfl, (Below.refl _ _).alloc (Nat.le_refl _) _⟩

set_option maxHeartbeats 400000 in
theorem has_any (A : Option Addr) (es : List (ByteArray × Nat)) (c : Nat) (s : ByteArray) (w : World) (hF : Fan w A es) :
    Calls Try.prog 89 #[.agg #[.slice A es.length c], .string s] w fun e w' => e = .returned (.int .i64 (ixInt (ixN s (es.map (·.1))))) ∧ Below w.heap.size w w' := by
  have hm := hF.1
  unfold maxLen at hm
  have hlen : (es.map (·.1)).length = es.length := by simp
  have HL := Lib.hid hlen
  clear hlen
  go_enter Try.func89, Try.ntmps89
  go_wp2
  go_loop [10] (fun i => ∃ k : Nat, k ≤ es.length ∧ i = .int .i64 k ∧ ixN s (es.map (·.1)) = (ixN s ((es.map (·.1)).drop k)).map (· + k)) (fun i => es.length - (intOf i).toNat)
  case atStart => exact ⟨0, Nat.zero_le _, rfl, by simp⟩
  case round =>
    obtain ⟨k, hk, rfl, hix⟩ := hrel
    have HIX := Lib.hid hix
    clear hix
    by_cases hlt : k < es.length
    · obtain ⟨b, p, rfl, h1, h2, h3⟩ := (hF.below ((Below.refl w.heap.size w).alloc (Nat.le_refl _) (Obj.cells #[Value.slice A es.length c] 111))).2 k hlt
      clear hF h3
      generalize hE : es[k].1 = en at h2
      have HE : Hid (∀ h : k < (es.map (·.1)).length, hit s ((es.map (·.1))[k]) = hit s en) := by
        intro h
        rw [List.getElem_map, hE]
      clear hE
      go_wp2
      case roundEnd =>
        refine ⟨⟨k + 1, by omega, by go_num, ixN_no (by rw [HL.out]; exact hlt) HIX.out ?_⟩, by simp [intOf]; omega⟩
        rw [HE.out]; unfold hit; simp_all
      all_goals
        go_ret
        refine ⟨ret_i64 (ixN_yes (by rw [HL.out]; exact hlt) HIX.out ?_).symm, (Below.refl _ _).alloc (Nat.le_refl _) _⟩
        rw [HE.out]; unfold hit; simp_all
    · go_wp2
      go_ret
      exact ⟨ret_i64 (ixN_end (by rw [HL.out]; exact hlt) HIX.out).symm, (Below.refl _ _).alloc (Nat.le_refl _) _⟩

theorem has_none {A : Option Addr} {es : List (ByteArray × Nat)} (c : Nat) {s : ByteArray} {w : World} (hF : Fan w A es) (h : ixN s (es.map (·.1)) = none) :
    Calls Try.prog 89 #[.agg #[.slice A es.length c], .string s] w fun e w' => e = .returned (.int .i64 (-1)) ∧ Below w.heap.size w w' := by
  have := has_any A es c s w hF
  rw [h] at this
  exact this
theorem has_some {A : Option Addr} {es : List (ByteArray × Nat)} (c : Nat) {s : ByteArray} {w : World} {j : Nat} (hF : Fan w A es) (h : ixN s (es.map (·.1)) = some j) :
    Calls Try.prog 89 #[.agg #[.slice A es.length c], .string s] w fun e w' => e = .returned (.int .i64 (j : Int)) ∧ Below w.heap.size w w' := by
  have := has_any A es c s w hF
  rw [h] at this
  exact this

end Go.Proofs.Ytjifoimkjgepcaa.Flt
