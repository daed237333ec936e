/-
  The walks of laws.same[impl.Mark] (where both are equal), laws.zzFits12 and laws.zzFits11.
-/
import Derived.Test.YtaniafohcaiedaaDoorMk
import Derived.Test.YtaniafohcaiedaaDoorWEqStruct
import Derived.Outline
import Derived.Deep.QuietTactic
import Derived.BigQuiet
import Derived.Laws.StructEq
set_option linter.unusedVariables false
set_option linter.unusedSimpArgs false
namespace Go.Proofs.YtaniafohcaiedaaDoor.M
open Go.RowKit Go.Proofs.YtaniafohcaiedaaDoor.K Go.Proofs.YtaniafohcaiedaaDoorW.PrintWords

theorem eqM_run (s : ByteArray) (v : Int) (W : World) : (Op.equalIn 10000 62 (.agg #[.string s, .int .i64 v]) (.agg #[.string s, .int .i64 v])).run Tryd.prog W = .ok true W := by
  have h1 : (Op.equalIn 9999 9 (.string s) (.string s)).run Tryd.prog W = .ok true W := by
    have := run_equalIn_string (P := Tryd.prog) W 9998 9 s s Tryd.underlying9
    simpa using this
  have h2 : (Op.equalIn 9999 3 (.int .i64 v) (.int .i64 v)).run Tryd.prog W = .ok true W := by
    have := run_equalIn_int (P := Tryd.prog) W 9998 3 .i64 .i64 v v Tryd.underlying3
    simpa using this
  exact eqA_of Tryd.underlying62 (by kernel_rfl) (eqf_cons (r := true) (s := true) rfl (a := .string s) (by kernel_rfl) (b := .string s) (by kernel_rfl) h1 (eqf_last rfl (a := .int .i64 v) (by kernel_rfl) (b := .int .i64 v) (by kernel_rfl) h2))

set_option maxHeartbeats 1000000 in
set_option maxRecDepth 5000 in
theorem sameMark_eq (A B : Option Addr) (c c' : Nat) (xs : List Mk) (w : World) (hC : kMk.C w A xs.length xs) (hD : kMk.C w B xs.length xs) :
    Calls Tryd.prog 38 #[.slice A xs.length c, .slice B xs.length c'] w fun e w' => e = .returned (.bool true) ∧ Below w.heap.size w w' := by
  have hm := hC.2.1
  have HC := Lib.hid hC
  have HD := Lib.hid hD
  clear hC hD
  go_enter Tryd.func38, Tryd.ntmps38
  go_wp2
  go_loopw [13] (fun i wr => ∃ k : Nat, k ≤ xs.length ∧ i = .int .i64 k ∧ Hid (Below w.heap.size w wr)) (fun i _ => xs.length - (intOf i).toNat)
  case atStart => exact ⟨0, Nat.zero_le _, rfl, Lib.hid (Below.refl _ _)⟩
  case round =>
    obtain ⟨k, hk, rfl, hbel⟩ := hrel
    by_cases hlt : k < xs.length
    · obtain ⟨ad, rfl, h0, h1⟩ := marks_at (Kd.C_below HC.out hbel.out) k hlt
      obtain ⟨bd, rfl, g0, g1⟩ := marks_at (Kd.C_below HD.out hbel.out) k hlt
      have p0 : (0 : Int) ≤ k := by omega
      have p1 : (k : Int) < (xs.length : Int) := by omega
      have heq := eqM_run xs[k].1 xs[k].2
      go_wp2
      go_quiet (fail)
      go_wp2
      exact ⟨⟨k + 1, by omega, by go_num, Lib.hid (pw_below_drewN hbel.out _)⟩, by simp [intOf]; omega⟩
    · go_wp2
      go_ret
      exact ⟨rfl, hbel.out⟩

def BoolImp (p : Prop) (w : World) (e : Ending) (w' : World) : Prop := ∃ b : Bool, e = .returned (.bool b) ∧ (b = true → p) ∧ Below w.heap.size w w'
set_option maxHeartbeats 1000000 in
theorem fits12_any (s : ByteArray) (v : Int) (w : World) : Calls Tryd.prog 58 #[.agg #[.string s, .int .i64 v]] w (BoolImp (s.size ≤ 2147483647) w) := by
  go_enter Tryd.func58, Tryd.ntmps58
  by_cases hs : (2147483647 : Int) < s.size
  · go_wp2
    go_ret
    exact ⟨false, by simp, by simp, (Below.refl _ _).alloc (Nat.le_refl _) _⟩
  · go_wp2
    go_ret
    exact ⟨true, by simp, fun _ => by omega, (Below.refl _ _).alloc (Nat.le_refl _) _⟩
set_option maxHeartbeats 1000000 in
set_option maxRecDepth 5000 in
theorem fits11_any (A : Option Addr) (c : Nat) (l : List Mk) (w : World) (hC : kMk.C w A l.length l) : Calls Tryd.prog 32 #[.slice A l.length c] w (BoolImp (l.length ≤ 2147483647 ∧ ∀ m ∈ l, m.1.size ≤ 2147483647) w) := by
  have hm := hC.2.1
  have HC := Lib.hid hC
  clear hC
  go_enter Tryd.func32, Tryd.ntmps32
  by_cases hz : (2147483647 : Int) < l.length
  · go_wp2
    go_ret
    exact ⟨false, by simp, by simp, Below.refl _ _⟩
  go_wp2
  go_loopw [10] (fun i wr => ∃ k : Nat, k ≤ l.length ∧ i = .int .i64 k ∧ Hid (∀ m ∈ l.take k, m.1.size ≤ 2147483647) ∧ Hid (Below w.heap.size w wr)) (fun i _ => l.length - (intOf i).toNat)
  case atStart => exact ⟨0, Nat.zero_le _, rfl, Lib.hid (by simp), Lib.hid (Below.refl _ _)⟩
  case round =>
    obtain ⟨k, hk, rfl, hall, hbel⟩ := hrel
    have hzr := hbel.out.size
    by_cases hlt : k < l.length
    · obtain ⟨ad, rfl, h0, h1⟩ := marks_at (Kd.C_below HC.out hbel.out) k hlt
      have HT := Lib.hid (show l.take (k + 1) = l.take k ++ [l[k]] by rw [List.take_succ_eq_append_getElem hlt])
      generalize l[k] = m at h0 h1 HT
      obtain ⟨s, v⟩ := m
      simp only at h0 h1
      go_wp2_with fail
      refine (fits12_any s v _).mono ?_
      rintro e w1 ⟨b, rfl, hb, hb1⟩
      have HB := Lib.hid hb
      have HB1 := Lib.hid (below_step (hbel.out.alloc hzr (.cells #[.string s, .int .i64 v] 62)) (hb1.mono (by simp)))
      clear hb hb1
      cases b
      · go_wp2
        go_ret
        exact ⟨false, by simp, by simp, HB1.out⟩
      · go_wp2
        refine ⟨⟨k + 1, by omega, by go_num, Lib.hid ?_, HB1⟩, by simp [intOf]; omega⟩
        intro m hm
        rw [HT.out] at hm
        rcases List.mem_append.1 hm with hm | hm
        · exact hall.out m hm
        · rw [List.mem_singleton.1 hm]; exact HB.out (by simp)
    · obtain rfl : k = l.length := by omega
      have HA := Lib.hid (show ∀ m ∈ l, m.1.size ≤ 2147483647 by have := hall.out; rwa [List.take_length] at this)
      go_wp2
      go_ret
      exact ⟨true, by simp, fun _ => ⟨by omega, HA.out⟩, hbel.out⟩
end Go.Proofs.YtaniafohcaiedaaDoor.M
