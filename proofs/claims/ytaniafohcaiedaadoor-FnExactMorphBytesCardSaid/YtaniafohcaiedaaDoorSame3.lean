/-
  The walks of laws.same[[3]int] (where both are equal) and laws.small16.
-/
import Derived.Test.YtaniafohcaiedaaDoorT3
import Derived.Outline
import Derived.Deep.QuietTactic
import Derived.BigQuiet
import Derived.ChangeKeysEq
import Derived.Laws.StructEq
set_option linter.unusedVariables false
set_option linter.unusedSimpArgs false
namespace Go.Proofs.YtaniafohcaiedaaDoor.Z
open Go.RowKit Go.Proofs.YtaniafohcaiedaaDoor.K Go.Proofs.YtaniafohcaiedaaDoorW.PrintWords

theorem eq3_run (x : T3) (W : World) : (Op.equalIn 10000 39 (.agg #[.int .i64 x.1, .int .i64 x.2.1, .int .i64 x.2.2]) (.agg #[.int .i64 x.1, .int .i64 x.2.1, .int .i64 x.2.2])).run Tryd.prog W = .ok true W := by
  obtain ⟨i, hi⟩ : ∃ i, Tryd.prog.info? 3 = some i := Option.isSome_iff_exists.1 (by kernel_rfl)
  have hc : Tryd.prog.cellsOf 3 = 1 := by kernel_rfl
  have hr := run_equalIn_array (P := Tryd.prog) (w := W) (n := 3) (t := 39) (e := 3) 9999 #[.int .i64 x.1, .int .i64 x.2.1, .int .i64 x.2.2] #[.int .i64 x.1, .int .i64 x.2.1, .int .i64 x.2.2] Tryd.underlying39 hi
  rw [hc] at hr
  refine Eq.trans hr ?_
  have p0 : (part 3 #[.int .i64 x.1, .int .i64 x.2.1, .int .i64 x.2.2] 0).run Tryd.prog W = .ok (.int .i64 x.1) W := by kernel_rfl
  have p1 : (part 3 #[.int .i64 x.1, .int .i64 x.2.1, .int .i64 x.2.2] 1).run Tryd.prog W = .ok (.int .i64 x.2.1) W := by kernel_rfl
  have p2 : (part 3 #[.int .i64 x.1, .int .i64 x.2.1, .int .i64 x.2.2] 2).run Tryd.prog W = .ok (.int .i64 x.2.2) W := by kernel_rfl
  have e : ∀ a : Int, (Op.equalIn 9999 3 (.int .i64 a) (.int .i64 a)).run Tryd.prog W = .ok (a == a) W := fun a => run_equalIn_int (P := Tryd.prog) W 9998 3 .i64 .i64 a a Tryd.underlying3
  show (Op.eqItems 9999 3 1 _ _ [0, 1, 2]).run Tryd.prog W = _
  simp [Op.eqItems, p0, p1, p2, e]

set_option maxHeartbeats 1000000 in
set_option maxRecDepth 5000 in
theorem same3_eq (A B : Option Addr) (c c' : Nat) (xs : List T3) (w : World) (hC : (kT .i64).C w A xs.length xs) (hD : (kT .i64).C w B xs.length xs) :
    Calls Tryd.prog 21 #[.slice A xs.length c, .slice B xs.length c'] w fun e w' => e = .returned (.bool true) ∧ Below w.heap.size w w' := by
  have hm := hC.2.1
  have HC := Lib.hid hC
  have HD := Lib.hid hD
  clear hC hD
  go_enter Tryd.func21, Tryd.ntmps21
  go_wp2
  go_loopw [13] (fun i wr => ∃ k : Nat, k ≤ xs.length ∧ i = .int .i64 k ∧ Hid (Below w.heap.size w wr)) (fun i _ => xs.length - (intOf i).toNat)
  case atStart => exact ⟨0, Nat.zero_le _, rfl, Lib.hid (Below.refl _ _)⟩
  case round =>
    obtain ⟨k, hk, rfl, hbel⟩ := hrel
    by_cases hlt : k < xs.length
    · obtain ⟨ad, rfl, _, h0, h1, h2⟩ := t3_at (Kd.C_below HC.out hbel.out) k hlt
      obtain ⟨bd, rfl, _, g0, g1, g2⟩ := t3_at (Kd.C_below HD.out hbel.out) k hlt
      have p0 : (0 : Int) ≤ k := by omega
      have p1 : (k : Int) < (xs.length : Int) := by omega
      have heq := eq3_run xs[k]
      go_wp2
      go_quiet (fail)
      go_wp2
      exact ⟨⟨k + 1, by omega, by go_num, Lib.hid (pw_below_drewN hbel.out _)⟩, by simp [intOf]; omega⟩
    · go_wp2
      go_ret
      exact ⟨rfl, hbel.out⟩

def R16 (a : Int) : Prop := -32768 ≤ a ∧ a ≤ 32767
def T16 (x : T3) : Prop := R16 x.1 ∧ R16 x.2.1 ∧ R16 x.2.2
def nth3 (x : T3) (m : Nat) : Int := if m = 0 then x.1 else if m = 1 then x.2.1 else x.2.2
def pre3 (x : T3) (m : Nat) : Prop := ∀ i, i < m → i < 3 → R16 (nth3 x i)
theorem pre3_all {x : T3} (h : pre3 x 3) : T16 x := ⟨h 0 (by omega) (by omega), h 1 (by omega) (by omega), h 2 (by omega) (by omega)⟩
theorem pre3_succ {x : T3} {m : Nat} (h : pre3 x m) (h2 : R16 (nth3 x m)) : pre3 x (m + 1) := fun i hi h3 => by
  rcases Nat.lt_or_ge i m with h' | h'
  · exact h i h' h3
  · obtain rfl : i = m := by omega
    exact h2
theorem t16_take {xs : List T3} {k : Nat} (hk : k < xs.length) (h : ∀ x ∈ xs.take k, T16 x) (h1 : T16 xs[k]) : ∀ x ∈ xs.take (k + 1), T16 x := by
  intro x hx
  rw [List.take_succ_eq_append_getElem hk] at hx
  rcases List.mem_append.1 hx with hx | hx
  · exact h x hx
  · rw [List.mem_singleton.1 hx]; exact h1
def BoolB (p : Prop) (w : World) (e : Ending) (w' : World) : Prop := ∃ b, e = .returned (.bool b) ∧ (b = true → p) ∧ Below w.heap.size w w'

set_option maxHeartbeats 2000000 in
set_option maxRecDepth 5000 in
theorem small16_any (A : Option Addr) (c : Nat) (xs : List T3) (w : World) (hC : (kT .i64).C w A xs.length xs) :
    Calls Tryd.prog 19 #[.slice A xs.length c] w (BoolB ((∀ x ∈ xs, T16 x) ∧ xs.length ≤ 200) w) := by
  have hm := hC.2.1
  have HC := Lib.hid hC
  clear hC
  go_enter Tryd.func19, Tryd.ntmps19
  go_wp2
  go_loopw [9] (fun i wr => ∃ k : Nat, k ≤ xs.length ∧ i = .int .i64 k ∧ Hid (∀ x ∈ xs.take k, T16 x) ∧ Hid (Below w.heap.size w wr)) (fun i _ => xs.length - (intOf i).toNat)
  case atStart => exact ⟨0, Nat.zero_le _, rfl, Lib.hid (by simp), Lib.hid (Below.refl _ _)⟩
  case round =>
    obtain ⟨k, hk, rfl, hall, hbel⟩ := hrel
    by_cases hlt : k < xs.length
    · obtain ⟨ad, rfl, _, h0, h1, h2⟩ := t3_at (Kd.C_below HC.out hbel.out) k hlt
      go_wp2
      have hbel2 := Lib.hid (hbel.out.alloc hbel.out.size (.cells #[.int .i64 xs[k].1, .int .i64 xs[k].2.1, .int .i64 xs[k].2.2] 39))
      generalize hwq : wr.alloc (.cells #[.int .i64 xs[k].1, .int .i64 xs[k].2.1, .int .i64 xs[k].2.2] 39) = w2 at hbel2 ⊢
      clear hwq h0 h1 h2
      generalize hxx : xs[k] = x at ⊢
      have hi0 : ∀ W : World, (Instr.index 39 (.agg #[.int .i64 x.1, .int .i64 x.2.1, .int .i64 x.2.2]) (.int .i64 0)).run Tryd.prog W = .ok (.int .i64 x.1) W := fun W => by kernel_rfl
      have hi1 : ∀ W : World, (Instr.index 39 (.agg #[.int .i64 x.1, .int .i64 x.2.1, .int .i64 x.2.2]) (.int .i64 1)).run Tryd.prog W = .ok (.int .i64 x.2.1) W := fun W => by kernel_rfl
      have hi2 : ∀ W : World, (Instr.index 39 (.agg #[.int .i64 x.1, .int .i64 x.2.1, .int .i64 x.2.2]) (.int .i64 2)).run Tryd.prog W = .ok (.int .i64 x.2.2) W := fun W => by kernel_rfl
      go_loopw [14] (fun j wq => ∃ m : Nat, m ≤ 3 ∧ j = .int .i64 m ∧ Hid (pre3 x m) ∧ wq = w2) (fun j _ => 3 - (intOf j).toNat)
      case atStart => exact ⟨0, by omega, rfl, Lib.hid (fun i hi => by omega), rfl⟩
      case round =>
        obtain ⟨m, hm3, rfl, hpre, rfl⟩ := hrel
        have HB := hbel2
        have hmm : m = 0 ∨ m = 1 ∨ m = 2 ∨ m = 3 := by omega
        rcases hmm with rfl | rfl | rfl | rfl
        · by_cases q1 : x.1 < -32768
          · go_wp2
            go_ret
            exact ⟨false, rfl, by simp, HB.out⟩
          by_cases q2 : 32767 < x.1
          · go_wp2
            go_ret
            exact ⟨false, rfl, by simp, HB.out⟩
          have HP := Lib.hid (pre3_succ hpre.out (show R16 (nth3 x 0) from ⟨by simp [nth3]; omega, by simp [nth3]; omega⟩))
          go_wp2
          exact ⟨⟨1, by omega, rfl, HP, trivial⟩, by simp [intOf]⟩
        · by_cases q1 : x.2.1 < -32768
          · go_wp2
            go_ret
            exact ⟨false, rfl, by simp, HB.out⟩
          by_cases q2 : 32767 < x.2.1
          · go_wp2
            go_ret
            exact ⟨false, rfl, by simp, HB.out⟩
          have HP := Lib.hid (pre3_succ hpre.out (show R16 (nth3 x 1) from ⟨by simp [nth3]; omega, by simp [nth3]; omega⟩))
          go_wp2
          exact ⟨⟨2, by omega, rfl, HP, trivial⟩, by simp [intOf]⟩
        · by_cases q1 : x.2.2 < -32768
          · go_wp2
            go_ret
            exact ⟨false, rfl, by simp, HB.out⟩
          by_cases q2 : 32767 < x.2.2
          · go_wp2
            go_ret
            exact ⟨false, rfl, by simp, HB.out⟩
          have HP := Lib.hid (pre3_succ hpre.out (show R16 (nth3 x 2) from ⟨by simp [nth3]; omega, by simp [nth3]; omega⟩))
          go_wp2
          exact ⟨⟨3, by omega, rfl, HP, trivial⟩, by simp [intOf]⟩
        · have HP := Lib.hid (t16_take hlt hall.out (by rw [hxx]; exact pre3_all hpre.out))
          go_wp2
          exact ⟨⟨k + 1, by omega, by go_num, HP, HB⟩, by simp [intOf]; omega⟩
    · have h := hall.out
      obtain rfl : k = xs.length := by omega
      rw [List.take_length] at h
      have HALL := Lib.hid h
      clear h hall
      by_cases h200 : xs.length ≤ 200
      · go_wp2
        go_ret
        exact ⟨true, by simp [h200]; omega, fun _ => ⟨HALL.out, h200⟩, hbel.out⟩
      · go_wp2
        go_ret
        exact ⟨false, by simp [h200]; omega, by simp, hbel.out⟩
end Go.Proofs.YtaniafohcaiedaaDoor.Z
