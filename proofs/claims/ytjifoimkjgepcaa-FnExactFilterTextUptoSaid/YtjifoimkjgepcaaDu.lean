/-
  The walk of truncate.
-/
import Derived.Test.YtjifoimkjgepcaaDx
set_option linter.unusedVariables false
set_option linter.unusedSimpArgs false
namespace Go.Proofs.Ytjifoimkjgepcaa.Da
open Go.RowKit Go.Proofs.Ytjifoimkjgepcaa.K Go.Proofs.YtjifoimkjgepcaaW.PrintWords

/-- The first m cells. -/
def cutA (A : DA) (m : Nat) : DA := ⟨m, A.b, A.c⟩
theorem pad_cut (A : DA) (m : Nat) : cellsOf (padA A m m) = cellsOf (cutA A m) := cells_ext rfl (fun i h => by have h' : i < m := h; show (if i < m then A.b i else 0) = _; rw [if_pos h']; rfl) (fun i h => by have h' : i < m := h; show (if i < m then A.c i else 0) = _; rw [if_pos h']; rfl)

set_option maxHeartbeats 1000000 in
set_option maxRecDepth 100000 in
theorem truncate_any (dp g : Nat) (A : DA) (u : Nat) (w : World) (ha : Arr dp g A w) (hn : A.n ≤ 536870918) (hu : u < A.n) (hcu : 0 ≤ A.c u) (hrc : ∀ i, i < A.n → -2147483648 ≤ A.c i ∧ A.c i ≤ 2147483647) :
    Calls Try.prog 67 #[.pointer (some ⟨dp, 0, none⟩)] w fun e w' => e = .returned (.tuple #[]) ∧ ∃ m g', Arr dp g' (cutA A m) w' ∧ m ≤ A.n ∧ u < m ∧ (∀ i, i < A.n → m ≤ i → A.c i < 0) ∧ (g' = g ∨ w.heap.size ≤ g') ∧ Kp dp g w w' := by
  have hv : w.cell? ⟨dp, 0, none⟩ = some (.slice (some ⟨g, 0, none⟩) A.n A.n) := ha.cv
  have HA := Lib.hid ha
  have HRC := Lib.hid hrc
  clear ha hrc
  go_enter Try.func67, Try.ntmps67
  go_wp2_with fail
  go_loop [2, 3] (fun sv iv => ∃ k m : Nat, k + m = A.n ∧ sv = .int .i64 m ∧ iv = .int .i64 k ∧ Hid (∀ i, i < A.n → m ≤ i → A.c i < 0)) (fun sv _ => (intOf sv).toNat)
  case atStart => exact ⟨0, A.n, by omega, rfl, rfl, Lib.hid (fun i h1 h2 => by omega)⟩
  case round =>
    obtain ⟨k, m, hkm, rfl, rfl, HN⟩ := hrel
    have hum : u < m := Nat.lt_of_not_le fun h => by have := HN.out u hu h; omega
    obtain ⟨m', hm'⟩ : ∃ m', m = m' + 1 := ⟨m - 1, by omega⟩
    have hlt : k < A.n := by omega
    have hidx : (A.n : Int) - (k : Int) - 1 = (m' : Int) := by omega
    have hsub : (m : Int) - 1 = (m' : Int) := by omega
    have hmn : m' < A.n := by omega
    have hmA : m ≤ A.n := by omega
    obtain ⟨x, hx⟩ : ∃ x, x = A.c m' := ⟨_, rfl⟩
    have hcx : w.cell? ⟨g, m' * 2 + 1, none⟩ = some (.int .i32 x) := by rw [hx]; exact HA.out.cc hmn
    have HX := Lib.hid hx
    have HKM := Lib.hid hkm
    have HM' := Lib.hid hm'
    clear hx hkm hm'
    by_cases hneg : x < 0
    · have hd : decide (x < 0) = true := by simpa using hneg
      have HN2 : Hid (∀ i, i < A.n → m' ≤ i → A.c i < 0) := Lib.hid (fun i h1 h2 => by
        by_cases h : i = m'
        · rw [h, ← HX.out]; exact hneg
        · exact HN.out i h1 (by have := HM'.out; omega))
      have hkm := HKM.out
      have hm' := HM'.out
      have HA1 : Hid (k + 1 + m' = A.n) := Lib.hid (by omega)
      clear hkm hm'
      go_wp2_with fail
      exact ⟨⟨k + 1, m', HA1.out, rfl, by go_num, HN2⟩, by have := HM'.out; simp [intOf]; omega⟩
    · have hd : decide (x < 0) = false := by simpa using hneg
      by_cases heq : m = A.n
      · have he : ((m : Int) == (A.n : Int)) = true := by simp [heq]
        have HE := Lib.hid heq
        clear heq
        go_wp2_with fail
        refine bodyPost_ret (v := .tuple #[]) (by simp [results, Try.results67, go_sem]) rfl ⟨rfl, A.n, g, HA.out, Nat.le_refl _, hu, fun i h1 h2 => by omega, .inl rfl, Kp.refl _ _ _⟩
      · have he : ((m : Int) == (A.n : Int)) = false := by rw [beq_eq_false_iff_ne]; omega
        have hmk := make_da m (by omega)
        clear heq
        go_upto_region 9 with fail
        generalize hw1 : World.alloc (World.alloc w _) _ = w1
        obtain ⟨q, hq⟩ : ∃ q, q = w.heap.size := ⟨_, rfl⟩
        have hdl := lt_of_heap HA.out.var
        have hgl := lt_of_heap HA.out.arr
        have B1 : w1.heap[q]? = some (.cells #[.slice (some ⟨q + 1, 0, none⟩) m m] tDA (0, 0)) := by subst hw1 hq; exact heap_old (heap_new _ _) _
        have B2 : w1.heap[q + 1]? = some (.cells (cellsOf (zeroA m)) tEl (0, 0)) := by
          subst hw1 hq
          have := heap_new (w.alloc (.cells #[.slice (some ⟨w.heap.size + 1, 0, none⟩) m m] tDA)) (.cells (cellsOf (zeroA m)) tEl)
          rw [size_alloc] at this
          exact this
        have A1 : Arr dp g A w1 := by subst hw1; exact (HA.out.alloc _).alloc _
        have K1 : Hid (Kp dp g w w1) := Lib.hid (by subst hw1; exact ((Kp.refl dp g w).alloc _).alloc _)
        have HQ := Lib.hid hq
        rw [← hq]
        have hqd : dp < q := by omega
        have hqg : g < q := by omega
        clear hw1 hmk hv hcx hdl hgl hq
        have hv : w1.cell? ⟨dp, 0, none⟩ = some (.slice (some ⟨g, 0, none⟩) A.n A.n) := A1.cv
        have hq1 : w1.cell? ⟨q, 0, none⟩ = some (.slice (some ⟨q + 1, 0, none⟩) m m) := by rw [cell_of_heap B1]; rfl
        have HB1 := Lib.hid B1
        have HB2 := Lib.hid B2
        have HA1 := Lib.hid A1
        have hmi : (m : Int) ≤ (A.n : Int) := by omega
        clear B1 B2 A1
        go_cut [48] from 40 to 48 (fun v wx => v = .int .i64 m ∧ Hid (wx.heap[q + 1]? = some (.cells (cellsOf (padA A m m)) tEl (0, 0))) ∧ Hid (Only (q + 1) w1 wx))
        case first =>
          go_region_law (refine step_copy_da rfl (.tmp 42) (.tmp 47) 80 80 rfl tEl Try.underlying80 (by kernel_rfl) (q + 1) g m m m A.n rfl rfl A m m tEl tEl (0, 0) (Nat.min_self m).symm HB2.out HA1.out.arr hmA (Nat.le_refl _) ?_; intro w2 HG2 HO2)
          all_goals (go_wp2_with fail; go_meet; exact ⟨rfl, HG2, Lib.hid ⟨HO2.out.os, HO2.out.tape, HO2.out.output, HO2.out.size, HO2.out.block⟩⟩)
        case rest =>
          obtain ⟨rfl, HG2, HO2⟩ := hcut
          have A0 : Arr dp g A wc := HA1.out.keep (HO2.out.block dp (by omega)) (HO2.out.block g (by omega))
          have hc1 : wc.cell? ⟨dp, 0, none⟩ = some (.slice (some ⟨g, 0, none⟩) A.n A.n) := A0.cv
          have hf1 : wc.frozen? ⟨dp, 0, none⟩ = false := A0.fv
          have hq2 : wc.cell? ⟨q, 0, none⟩ = some (.slice (some ⟨q + 1, 0, none⟩) m m) := by rw [cell_of_heap ((HO2.out.block q (by omega)).trans HB1.out)]; rfl
          have HA0 := Lib.hid A0
          clear hv hq1 A0
          go_wp2
          go_end0
          refine ⟨rfl, m, q + 1, ⟨?_, ?_⟩, hmA, hum, HN.out, .inr (by rw [← HQ.out]; omega), ?_⟩
          · rw [heap_set HA0.out.var]; rfl
          · rw [heap_set_ne (by omega), HG2.out, pad_cut]
          · exact ((K1.out.only HO2.out (.inr (.inr (by rw [← HQ.out]; omega)))).set (p := ⟨dp, 0, none⟩) (.inl rfl) _)
end Go.Proofs.Ytjifoimkjgepcaa.Da
