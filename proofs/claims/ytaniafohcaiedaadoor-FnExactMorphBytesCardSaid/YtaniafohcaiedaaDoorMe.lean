/-
  The walks of spec.dBytes, spec.d16, spec.MorphBytes and laws.FnExactMorphBytes.
-/
import Derived.Test.YtaniafohcaiedaaDoorMb
import Derived.Test.YtaniafohcaiedaaDoorSameBy
set_option linter.unusedVariables false
set_option linter.unusedSimpArgs false
namespace Go.Proofs.YtaniafohcaiedaaDoor.Z
open Go.RowKit Go.Proofs.YtaniafohcaiedaaDoor.K Go.Proofs.YtaniafohcaiedaaDoorW.PrintWords

def leU (U : Int) (n : Nat) : List Int := (List.range n).map fun i => U / 2 ^ (8 * i) % 256
theorem leU_length (U : Int) (n : Nat) : (leU U n).length = n := by simp [leU]
theorem leU_succ (U : Int) (n : Nat) : leU U (n + 1) = leU U n ++ [U / 2 ^ (8 * n) % 256] := by simp [leU, List.range_succ]
theorem leB_eq (v : Int) (n : Nat) : leB v n = leU (IntKind.u64.wrap v) n := rfl
theorem shr_step (U : Int) (k : Nat) : U / 2 ^ (8 * k) / 256 = U / 2 ^ (8 * (k + 1)) := by
  rw [Int.ediv_ediv_of_nonneg (Int.pow_nonneg (by decide)), show (256 : Int) = 2 ^ 8 from rfl, ← Int.pow_add]
  congr 1

set_option maxHeartbeats 1000000 in
set_option maxRecDepth 5000 in
theorem dBytes_any (U : Int) (n : Nat) (w : World) (h0 : 0 ≤ U) (h1 : U < 18446744073709551616) (hn : n ≤ 8) :
    Calls Tryd.prog 45 #[.int .u64 U, .int .i64 n] w fun e w' => ∃ v, e = .returned v ∧ (Kd.int .u8).R U8 w' w.heap.size (fun _ => True) v (leU U n) ∧ Below w.heap.size w w' := by
  go_enter Tryd.func45, Tryd.ntmps45
  go_wp2
  go_loopw [7, 5, 0] (fun i v u wr => ∃ k : Nat, k ≤ n ∧ i = .int .i64 k ∧ u = .int .u64 (U / 2 ^ (8 * k)) ∧ Hid ((Kd.int .u8).R U8 wr w.heap.size (fun _ => True) v (leU U k)) ∧ Hid (Below w.heap.size w wr)) (fun i _ _ _ => n - (intOf i).toNat)
  case atStart => exact ⟨0, Nat.zero_le _, rfl, by simp, Lib.hid (Kd.R_nil _ _ _ _ _), Lib.hid (Below.refl _ _)⟩
  case round =>
    obtain ⟨k, hk, rfl, rfl, hR, hbel⟩ := hrel
    by_cases hlt : k < n
    · have hszr := hbel.out.size
      go_wp2_with (at_builtin; refine kapp (w0 := w) (Kd.int .u8) w.heap.size rfl _ _ 25 5 (.int .u8 0) 1 rfl Tryd.underlying25 (by kernel_rfl) rfl (by decide) (by decide) _ (leU U k) (U / 2 ^ (8 * k) % 256) [.int .u8 (U / 2 ^ (8 * k) % 256)] (fun _ => True) (fun _ => False) wr.heap.size rfl rfl ?hg rfl (fun _ h => h.elim) (fun _ _ => trivial) (Kd.R_alloc hR.out _) (hbel.out.alloc hszr _) (by simp; omega) ?hl ?_)
      case hg =>
        intro j u hj
        rw [cell_of_heap (heap_new wr _)]
        simpa using hj
      case hl => rw [leU_length]; omega
      intro v1 w4 hR4 hB4 hg4 hat4
      have HR4 := Lib.hid hR4
      have HB4 := Lib.hid hB4
      have hsh := shr_step U k
      clear hg4 hat4 hR4 hB4
      go_wp2
      exact ⟨⟨k + 1, by omega, by go_num, rfl, by rw [leU_succ]; exact HR4, HB4⟩, by simp [intOf]; omega⟩
    · obtain rfl : k = n := by omega
      go_wp2
      go_ret
      exact ⟨_, rfl, hR.out, hbel.out⟩

theorem d16_yes (a : Int) (w : World) (h : R16 a) : Calls Tryd.prog 46 #[.int .i64 a] w fun e w' => e = .returned (.bool true) ∧ w' = w := by
  have h1 : ¬ a < -32768 := by have := h.1; omega
  have h2 : a < 32768 := by have := h.2; omega
  clear h
  go_enter Tryd.func46, Tryd.ntmps46
  go_wp2
  go_ret
  exact ⟨rfl, rfl⟩
theorem d16_no (a : Int) (w : World) (h : ¬ R16 a) : Calls Tryd.prog 46 #[.int .i64 a] w fun e w' => e = .returned (.bool false) ∧ w' = w := by
  have h12 : a < -32768 ∨ (¬ a < -32768 ∧ ¬ a < 32768) := by
    rcases Int.lt_or_le a (-32768) with h1 | h1
    · exact .inl h1
    · exact .inr ⟨by omega, fun h2 => h ⟨by omega, by omega⟩⟩
  clear h
  go_enter Tryd.func46, Tryd.ntmps46
  rcases h12 with h1 | ⟨h1, h2⟩
  · go_wp2
    go_ret
    exact ⟨rfl, rfl⟩
  · go_wp2
    go_ret
    exact ⟨rfl, rfl⟩

def pre (m : Nat) (x : T3) : List Int := (leB x.1 2 ++ leB x.2.1 2 ++ leB x.2.2 2).take (2 * m)
theorem pre_length (m : Nat) (x : T3) : (pre m x).length = min (2 * m) 6 := by simp [pre, leB_length]
theorem pre_succ0 (x : T3) : pre 0 x ++ leB x.1 2 = pre 1 x := rfl
theorem pre_succ1 (x : T3) : pre 1 x ++ leB x.2.1 2 = pre 2 x := rfl
theorem pre_succ2 (x : T3) : pre 2 x ++ leB x.2.2 2 = pre 3 x := rfl
theorem pre_full (x : T3) : pre 3 x = le3 x := rfl
def SpecRet (xs : List T3) (w : World) (e : Ending) (w' : World) : Prop :=
  (∃ v, e = .returned (.tuple #[v, .int .i64 0, .bool true]) ∧ (∀ x ∈ xs, T16 x) ∧ (Kd.int .u8).R U8 w' w.heap.size (fun _ => True) v (leB xs.length 8 ++ le3s xs) ∧ Below w.heap.size w w') ∨ (e = .returned (.tuple #[.slice none 0 0, .int .i64 0, .bool false]) ∧ Below w.heap.size w w')

set_option maxHeartbeats 4000000 in
set_option maxRecDepth 5000 in
theorem spec_morph (A : Option Addr) (c : Nat) (xs : List T3) (w : World) (hC : (kT .i64).C w A xs.length xs) (hn : xs.length ≤ 200) :
    Calls Tryd.prog 16 #[.slice A xs.length c] w (SpecRet xs w) := by
  have HC := Lib.hid hC
  have hU : IntKind.u64.wrap (xs.length : Int) = xs.length := by rw [IntKind.wrap_u64]; omega
  clear hC
  go_enter Tryd.func16, Tryd.ntmps16
  go_wp2_with fail
  refine (dBytes_any xs.length 8 w (by omega) (by omega) (by omega)).mono ?_
  rintro e w1 ⟨v1, rfl, hR1, hl1⟩
  have HR1 := Lib.hid (show (Kd.int .u8).R U8 w1 w.heap.size (fun _ => True) v1 (leB xs.length 8) by rw [leB_eq, hU]; exact hR1)
  have HL1 := Lib.hid hl1
  clear hR1 hl1
  go_wp2
  go_loopw [15, 2] (fun i v wr => ∃ k : Nat, k ≤ xs.length ∧ i = .int .i64 k ∧ Hid (∀ x ∈ xs.take k, T16 x) ∧ Hid ((Kd.int .u8).R U8 wr w.heap.size (fun _ => True) v (leB xs.length 8 ++ le3s (xs.take k))) ∧ Hid (Below w.heap.size w wr)) (fun i _ _ => xs.length - (intOf i).toNat)
  case atStart => exact ⟨0, Nat.zero_le _, rfl, Lib.hid (by simp), Lib.hid (by simpa [le3s] using HR1.out), HL1⟩
  case round =>
    obtain ⟨k, hk, rfl, hall, hV0, hbel⟩ := hrel
    by_cases hlt : k < xs.length
    · obtain ⟨ad, rfl, _, h0, h1, h2⟩ := t3_at (Kd.C_below HC.out hbel.out) k hlt
      go_wp2
      have hbel2 := Lib.hid (hbel.out.alloc hbel.out.size (.cells #[.int .i64 xs[k].1, .int .i64 xs[k].2.1, .int .i64 xs[k].2.2] 39))
      have hV2 := Lib.hid (Kd.R_alloc hV0.out (.cells #[.int .i64 xs[k].1, .int .i64 xs[k].2.1, .int .i64 xs[k].2.2] 39))
      generalize hwq : wr.alloc (.cells #[.int .i64 xs[k].1, .int .i64 xs[k].2.1, .int .i64 xs[k].2.2] 39) = w2 at hbel2 hV2 ⊢
      clear hwq h0 h1 h2
      generalize hxx : xs[k] = x at ⊢
      have hi0 : ∀ W : World, (Instr.index 39 (.agg #[.int .i64 x.1, .int .i64 x.2.1, .int .i64 x.2.2]) (.int .i64 0)).run Tryd.prog W = .ok (.int .i64 x.1) W := fun W => by kernel_rfl
      have hi1 : ∀ W : World, (Instr.index 39 (.agg #[.int .i64 x.1, .int .i64 x.2.1, .int .i64 x.2.2]) (.int .i64 1)).run Tryd.prog W = .ok (.int .i64 x.2.1) W := fun W => by kernel_rfl
      have hi2 : ∀ W : World, (Instr.index 39 (.agg #[.int .i64 x.1, .int .i64 x.2.1, .int .i64 x.2.2]) (.int .i64 2)).run Tryd.prog W = .ok (.int .i64 x.2.2) W := fun W => by kernel_rfl
      go_loopw [20, 2] (fun j v wq => ∃ m : Nat, m ≤ 3 ∧ j = .int .i64 m ∧ Hid (pre3 x m) ∧ Hid ((Kd.int .u8).R U8 wq w.heap.size (fun _ => True) v (leB xs.length 8 ++ le3s (xs.take k) ++ pre m x)) ∧ Hid (Below w.heap.size w wq)) (fun j _ _ => 3 - (intOf j).toNat)
      case atStart => exact ⟨0, by omega, rfl, Lib.hid (fun i hi => by omega), Lib.hid (by simpa [pre] using hV2.out), hbel2⟩
      case round =>
        obtain ⟨m, hm3, rfl, hpre, hV, hB⟩ := hrel
        clear hV2 hbel2 hV0 hbel
        have hmm : m = 0 ∨ m = 1 ∨ m = 2 ∨ m = 3 := by omega
        rcases hmm with rfl | rfl | rfl | rfl
        · by_cases q : R16 x.1
          · have HQ := Lib.hid q
            clear q
            go_wp2_with fail
            refine (d16_yes x.1 wr HQ.out).mono ?_
            rintro e w5 ⟨rfl, rfl⟩
            have hu := wrap_u64_range x.1
            go_wp2_with fail
            refine (dBytes_any (IntKind.u64.wrap x.1) 2 _ hu.1 hu.2 (by omega)).mono ?_
            rintro e w6 ⟨v6, rfl, hR6, hl6⟩
            obtain ⟨A6, c6, rfl, _, hC6⟩ := Kd.R_reads hR6
            have HC6 := Lib.hid hC6
            have HVm := Lib.hid (Kd.R_below hV.out hl6)
            have HLm := Lib.hid (hB.out.trans (hl6.mono hB.out.size))
            have hszm := HLm.out.size
            clear hR6 hC6 hl6
            go_wp2_with (at_builtin; refine Kd.R_append_rows (Kd.int .u8) (Rr := (Kd.int .u8).K w6) (w0 := w) w.heap.size rfl _ _ 25 5 (.int .u8 0) 1 rfl Tryd.underlying25 (by kernel_rfl) rfl (by decide) (by decide) _ (leB xs.length 8 ++ le3s (xs.take k) ++ pre 0 x) (leU (IntKind.u64.wrap x.1) 2) A6 (leU (IntKind.u64.wrap x.1) 2).length c6 (fun _ => True) (fun _ => False) rfl rfl HVm.out HC6.out (fun _ _ h => h) (fun _ h => h.elim) (fun _ _ => trivial) HLm.out hszm ?hl ?_)
            case hl => simp only [List.length_append, leB_length, le3s_length, List.length_take, leU_length, pre_length]; omega
            intro v7 w7 hR7 hB7 hg7 hat7
            have HR7 := Lib.hid hR7
            have HB7 := Lib.hid hB7
            have HPP := Lib.hid (pre3_succ hpre.out (show R16 (nth3 x 0) from HQ.out))
            clear hg7 hat7 hR7 hB7
            go_wp2
            refine ⟨⟨1, by omega, rfl, HPP, Lib.hid ?_, HB7⟩, by simp [intOf]⟩
            rw [List.append_assoc, ← pre_succ0]
            exact HR7.out
          · have HQ := Lib.hid q
            clear q
            go_wp2_with fail
            refine (d16_no x.1 wr HQ.out).mono ?_
            rintro e w5 ⟨rfl, rfl⟩
            go_wp2
            refine bodyPost_ret (results_tmp3 rfl _ _ _) rfl ?_
            exact .inr ⟨rfl, hB.out⟩
        · by_cases q : R16 x.2.1
          · have HQ := Lib.hid q
            clear q
            go_wp2_with fail
            refine (d16_yes x.2.1 wr HQ.out).mono ?_
            rintro e w5 ⟨rfl, rfl⟩
            have hu := wrap_u64_range x.2.1
            go_wp2_with fail
            refine (dBytes_any (IntKind.u64.wrap x.2.1) 2 _ hu.1 hu.2 (by omega)).mono ?_
            rintro e w6 ⟨v6, rfl, hR6, hl6⟩
            obtain ⟨A6, c6, rfl, _, hC6⟩ := Kd.R_reads hR6
            have HC6 := Lib.hid hC6
            have HVm := Lib.hid (Kd.R_below hV.out hl6)
            have HLm := Lib.hid (hB.out.trans (hl6.mono hB.out.size))
            have hszm := HLm.out.size
            clear hR6 hC6 hl6
            go_wp2_with (at_builtin; refine Kd.R_append_rows (Kd.int .u8) (Rr := (Kd.int .u8).K w6) (w0 := w) w.heap.size rfl _ _ 25 5 (.int .u8 0) 1 rfl Tryd.underlying25 (by kernel_rfl) rfl (by decide) (by decide) _ (leB xs.length 8 ++ le3s (xs.take k) ++ pre 1 x) (leU (IntKind.u64.wrap x.2.1) 2) A6 (leU (IntKind.u64.wrap x.2.1) 2).length c6 (fun _ => True) (fun _ => False) rfl rfl HVm.out HC6.out (fun _ _ h => h) (fun _ h => h.elim) (fun _ _ => trivial) HLm.out hszm ?hl ?_)
            case hl => simp only [List.length_append, leB_length, le3s_length, List.length_take, leU_length, pre_length]; omega
            intro v7 w7 hR7 hB7 hg7 hat7
            have HR7 := Lib.hid hR7
            have HB7 := Lib.hid hB7
            have HPP := Lib.hid (pre3_succ hpre.out (show R16 (nth3 x 1) from HQ.out))
            clear hg7 hat7 hR7 hB7
            go_wp2
            refine ⟨⟨2, by omega, rfl, HPP, Lib.hid ?_, HB7⟩, by simp [intOf]⟩
            rw [List.append_assoc, ← pre_succ1]
            exact HR7.out
          · have HQ := Lib.hid q
            clear q
            go_wp2_with fail
            refine (d16_no x.2.1 wr HQ.out).mono ?_
            rintro e w5 ⟨rfl, rfl⟩
            go_wp2
            refine bodyPost_ret (results_tmp3 rfl _ _ _) rfl ?_
            exact .inr ⟨rfl, hB.out⟩
        · by_cases q : R16 x.2.2
          · have HQ := Lib.hid q
            clear q
            go_wp2_with fail
            refine (d16_yes x.2.2 wr HQ.out).mono ?_
            rintro e w5 ⟨rfl, rfl⟩
            have hu := wrap_u64_range x.2.2
            go_wp2_with fail
            refine (dBytes_any (IntKind.u64.wrap x.2.2) 2 _ hu.1 hu.2 (by omega)).mono ?_
            rintro e w6 ⟨v6, rfl, hR6, hl6⟩
            obtain ⟨A6, c6, rfl, _, hC6⟩ := Kd.R_reads hR6
            have HC6 := Lib.hid hC6
            have HVm := Lib.hid (Kd.R_below hV.out hl6)
            have HLm := Lib.hid (hB.out.trans (hl6.mono hB.out.size))
            have hszm := HLm.out.size
            clear hR6 hC6 hl6
            go_wp2_with (at_builtin; refine Kd.R_append_rows (Kd.int .u8) (Rr := (Kd.int .u8).K w6) (w0 := w) w.heap.size rfl _ _ 25 5 (.int .u8 0) 1 rfl Tryd.underlying25 (by kernel_rfl) rfl (by decide) (by decide) _ (leB xs.length 8 ++ le3s (xs.take k) ++ pre 2 x) (leU (IntKind.u64.wrap x.2.2) 2) A6 (leU (IntKind.u64.wrap x.2.2) 2).length c6 (fun _ => True) (fun _ => False) rfl rfl HVm.out HC6.out (fun _ _ h => h) (fun _ h => h.elim) (fun _ _ => trivial) HLm.out hszm ?hl ?_)
            case hl => simp only [List.length_append, leB_length, le3s_length, List.length_take, leU_length, pre_length]; omega
            intro v7 w7 hR7 hB7 hg7 hat7
            have HR7 := Lib.hid hR7
            have HB7 := Lib.hid hB7
            have HPP := Lib.hid (pre3_succ hpre.out (show R16 (nth3 x 2) from HQ.out))
            clear hg7 hat7 hR7 hB7
            go_wp2
            refine ⟨⟨3, by omega, rfl, HPP, Lib.hid ?_, HB7⟩, by simp [intOf]⟩
            rw [List.append_assoc, ← pre_succ2]
            exact HR7.out
          · have HQ := Lib.hid q
            clear q
            go_wp2_with fail
            refine (d16_no x.2.2 wr HQ.out).mono ?_
            rintro e w5 ⟨rfl, rfl⟩
            go_wp2
            refine bodyPost_ret (results_tmp3 rfl _ _ _) rfl ?_
            exact .inr ⟨rfl, hB.out⟩
        · have HP := Lib.hid (t16_take hlt hall.out (by rw [hxx]; exact pre3_all hpre.out))
          have HV := Lib.hid (show (Kd.int .u8).R U8 _ w.heap.size (fun _ => True) _ (leB xs.length 8 ++ le3s (xs.take (k + 1))) by
            rw [le3s_take xs k hlt, hxx, ← List.append_assoc]; exact hV.out)
          go_wp2
          exact ⟨⟨k + 1, by omega, by go_num, HP, HV, hB⟩, by simp [intOf]; omega⟩
    · obtain rfl : k = xs.length := by omega
      have h := hall.out
      have h' := hV0.out
      rw [List.take_length] at h h'
      have HA := Lib.hid h
      have HV := Lib.hid h'
      clear h h' hall hV0
      go_wp2
      refine bodyPost_ret (results_tmp3 rfl _ _ _) rfl ?_
      exact .inl ⟨_, rfl, HA.out, HV.out, hbel.out⟩

theorem C_of_src {w : World} {ad : Addr} {xs : List Int} (h : Src w ad xs) (hl : xs.length ≤ 9223372036854775807) : (Kd.int .u8).C w (some ad) xs.length xs :=
  ⟨rfl, hl, fun _ => ⟨ad, rfl, fun j p hp => ⟨[.int .u8 p], rfl, rfl, fun i u hu => by
    cases i with
    | zero =>
      simp at hu
      subst hu
      have e : (Kd.int .u8).sz = 1 := rfl
      rw [e, Nat.mul_one, Nat.add_zero]
      exact h j _ (by simp [nums, hp])
    | succ i => simp at hu⟩⟩⟩

set_option maxHeartbeats 1000000 in
set_option maxRecDepth 5000 in
theorem exact_walk (A : Option Addr) (c : Nat) (xs : List T3) (w : World) (hC : (kT .i64).C w A xs.length xs) :
    Calls Tryd.prog 4 #[.slice A xs.length c] w fun e w' => e = .returned (.bool true) ∧ Below w.heap.size w w' := by
  have HC := Lib.hid hC
  clear hC
  go_enter Tryd.func4, Tryd.ntmps4
  by_cases hsz : 2147483647 < xs.length
  · go_wp2
    go_ret
    exact ⟨rfl, Below.refl _ _⟩
  by_cases h200 : 200 < xs.length
  · go_wp2_with fail
    refine (weighs_any w).mono ?_
    rintro e w2 ⟨rfl, hl⟩
    have HL := Lib.hid hl
    clear hl
    go_wp2
    go_ret
    exact ⟨rfl, HL.out⟩
  go_wp2_with fail
  refine (spec_morph A c xs w HC.out (by omega)).mono ?_
  rintro e w1 (⟨v1, rfl, h16, hR1, hl1⟩ | ⟨rfl, hl1⟩)
  · obtain ⟨A1, c1, rfl, _, hC1⟩ := Kd.R_reads hR1
    have H16 := Lib.hid h16
    have HC1 := Lib.hid hC1
    have HL1 := Lib.hid hl1
    have hlen : (leB xs.length 8 ++ le3s xs).length = 8 + 6 * xs.length := by rw [List.length_append, leB_length, le3s_length]
    clear h16 hR1 hC1 hl1
    rw [hlen]
    go_wp2_with fail
    refine (m_bytes A c xs _ (Kd.C_below HC.out HL1.out) (by omega)).mono ?_
    rintro e w2 ⟨g, cap, cur, rfl, hgb, hg2, hcap, hcm, ht, hl2⟩
    rw [m16_id H16.out] at ht
    have hC2 := C_of_src (src_of hg2 ht) (by omega)
    have hC3 := Kd.C_below HC1.out hl2
    have HS := Lib.hid (sameU8_any (some ⟨g, 0, none⟩) A1 cap c1 _ _ w2 hC2 hC3)
    rw [hlen] at HS
    have HL2 := Lib.hid (HL1.out.trans (hl2.mono HL1.out.size))
    clear hg2 ht hl2 hC2 hC3
    go_wp2_with fail
    refine HS.out.mono ?_
    rintro e w3 ⟨rfl, hl3⟩
    rw [decide_eq_true trivial]
    have HL3 := Lib.hid (HL2.out.trans (hl3.mono HL2.out.size))
    clear hl3 HS
    go_wp2_with fail
    refine (weighs_any w3).mono ?_
    rintro e w4 ⟨rfl, hl4⟩
    have HL4 := Lib.hid (HL3.out.trans (hl4.mono HL3.out.size))
    clear hl4
    go_wp2
    go_ret
    exact ⟨rfl, HL4.out⟩
  · have HL1 := Lib.hid hl1
    clear hl1
    go_wp2_with fail
    refine (weighs_any w1).mono ?_
    rintro e w2 ⟨rfl, hl⟩
    have HL := Lib.hid (HL1.out.trans (hl.mono HL1.out.size))
    clear hl
    go_wp2
    go_ret
    exact ⟨rfl, HL.out⟩
end Go.Proofs.YtaniafohcaiedaaDoor.Z
