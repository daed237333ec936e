/-
  The walk of init: a fresh double array.
-/
import Derived.Test.YtjifoimkjgepcaaDm
set_option linter.unusedVariables false
set_option linter.unusedSimpArgs false
namespace Go.Proofs.Ytjifoimkjgepcaa.Da
open Go.RowKit Go.Proofs.Ytjifoimkjgepcaa.K Go.Proofs.YtjifoimkjgepcaaW.PrintWords

/-- init's array while its cells from 1 to k are laid. -/
def halfA (n k : Nat) : DA :=
  { n := n
    b := fun i => if i = 0 then 1 else if i < k then -((i : Int) - 1) else 0
    c := fun i => if i = 0 then -1 else if i < k then -((i : Int) + 1) else 0 }
set_option maxHeartbeats 1000000 in
set_option maxRecDepth 100000 in
theorem init_any (dp : Nat) (v0 : Value) (w : World) (hd : w.heap[dp]? = some (.cells #[v0] tDA (0, 0))) :
    Calls Try.prog 62 #[.pointer (some ⟨dp, 0, none⟩)] w fun e w' => e = .returned (.tuple #[]) ∧ ∃ g, Arr dp g (fresh 51200) w' ∧ w.heap.size ≤ g ∧ Kp dp g w w' := by
  have hmk : ∀ W : World, (Instr.makeSlice tDA (.int .i64 51200) (.int .i64 51200)).run Try.prog W = .ok (.slice (some ⟨W.heap.size, 0, none⟩) 51200 51200) (W.alloc (.cells (cellsOf (zeroA 51200)) tEl)) := fun W => by
    exact make_da 51200 (by decide) W
  have hc0 : (w.alloc (.cells (cellsOf (zeroA 51200)) tEl)).cell? ⟨dp, 0, none⟩ = some v0 := by rw [cell_of_heap (heap_old hd _)]; rfl
  have hf0 : (w.alloc (.cells (cellsOf (zeroA 51200)) tEl)).frozen? ⟨dp, 0, none⟩ = false := frozen_of_heap (heap_old hd _) 0
  have HD := Lib.hid hd
  clear hd
  go_enter Try.func62, Try.ntmps62
  go_upto_region 1 with fail
  generalize hw1 : World.setCell _ _ _ = w1
  obtain ⟨g, hg⟩ : ∃ g, g = w.heap.size := ⟨_, rfl⟩
  have A1 : Arr dp g (zeroA 51200) w1 := by
    subst hw1 hg
    exact ⟨heap_set (heap_old HD.out _) 0 _, by rw [heap_set_ne (by have := lt_of_heap HD.out; omega)]; exact heap_new _ _⟩
  have K1 : Hid (Kp dp g w w1) := Lib.hid (by
    subst hw1
    exact ((Kp.refl dp g w).alloc _).set (.inl rfl) _)
  rw [← hg]
  have G := Lib.hid hg
  clear hw1 hg hc0 hf0 hmk
  have hv : w1.cell? ⟨dp, 0, none⟩ = some (.slice (some ⟨g, 0, none⟩) 51200 51200) := A1.cv
  have h0 : w1.cell? ⟨g, 0, none⟩ = some (.int .i32 0) := A1.cb (i := 0) (by decide)
  have hf : w1.frozen? ⟨g, 0, none⟩ = false := A1.f 0
  go_upto_region 2 with fail
  generalize hw2 : World.setCell _ _ _ = w2
  have A2 := A1.set_b (i := 0) (by decide) 1
  have K2 : Hid (Kp dp g w w2) := Lib.hid (by
    subst hw2
    exact K1.out.set (.inr (.inl rfl)) _)
  rw [show 0 * 2 = 0 from rfl, hw2] at A2
  clear hw2 hv h0 hf A1 K1
  have hv : w2.cell? ⟨dp, 0, none⟩ = some (.slice (some ⟨g, 0, none⟩) 51200 51200) := A2.cv
  have h0 : w2.cell? ⟨g, 1, none⟩ = some (.int .i32 0) := A2.cc (i := 0) (by decide)
  have hf : w2.frozen? ⟨g, 1, none⟩ = false := A2.f 1
  go_upto_region 3 with fail
  generalize hw3 : World.setCell _ _ _ = w3
  have A3 := A2.set_c (i := 0) (by decide) (-1)
  have K3 : Hid (Kp dp g w w3) := Lib.hid (by
    subst hw3
    exact K2.out.set (.inr (.inl rfl)) _)
  rw [show 0 * 2 + 1 = 1 from rfl, hw3] at A3
  clear hw3 hv h0 hf A2 K2
  obtain ⟨N, hN⟩ : ∃ N : Nat, N = 51200 := ⟨_, rfl⟩
  have hv : w3.cell? ⟨dp, 0, none⟩ = some (.slice (some ⟨g, 0, none⟩) N N) := by rw [hN]; exact A3.cv
  have HN := Lib.hid hN
  have hN1 : 10 ≤ N := by omega
  have hN2 : N ≤ 100000 := by omega
  clear hN
  go_wp2
  go_loopw [3] (fun i wr => ∃ k : Nat, 1 ≤ k ∧ k ≤ N ∧ i = .int .i64 k ∧ Hid (Arr dp g (halfA N k) wr) ∧ Hid (Kp dp g w wr)) (fun i _ => N - (intOf i).toNat)
  case atStart =>
    refine ⟨1, by omega, by omega, rfl, Lib.hid ?_, K3⟩
    rw [HN.out]
    refine ⟨A3.var, A3.arr.trans (congrArg (fun z => some (Obj.cells z tEl (0, 0))) (cells_ext rfl ?_ ?_))⟩
    · intro i hi
      simp only [upd, zeroA, halfA]
      by_cases h : i = 0
      · simp [h]
      · rw [if_neg h, if_neg h, if_neg (by omega)]
    · intro i hi
      simp only [upd, zeroA, halfA]
      by_cases h : i = 0
      · simp [h]
      · rw [if_neg h, if_neg h, if_neg (by omega)]
  case round =>
    obtain ⟨k, hk1, hk, rfl, HA, HK⟩ := hrel
    have hv : wr.cell? ⟨dp, 0, none⟩ = some (.slice (some ⟨g, 0, none⟩) N N) := HA.out.cv
    clear A3
    by_cases hlt : k < N
    · have h0 : wr.cell? ⟨g, k * 2, none⟩ = some (.int .i32 0) := by rw [HA.out.cb (i := k) hlt]; simp [halfA]; omega
      have hf := HA.out.f (k * 2)
      go_upto_region 8 with fail
      generalize hw1 : World.setCell _ _ _ = w1
      have A1 := HA.out.set_b (i := k) hlt (-((k : Int) - 1))
      rw [hw1] at A1
      have HK1 : Hid (Kp dp g w w1) := Lib.hid (by
        subst hw1
        exact HK.out.set (.inr (.inl rfl)) _)
      clear hw1 hv h0 hf HA HK
      have hv : w1.cell? ⟨dp, 0, none⟩ = some (.slice (some ⟨g, 0, none⟩) N N) := A1.cv
      have h0 : w1.cell? ⟨g, k * 2 + 1, none⟩ = some (.int .i32 0) := by rw [A1.cc (i := k) hlt]; simp [halfA]; omega
      have hf := A1.f (k * 2 + 1)
      have A2 := Lib.hid (A1.set_c (i := k) hlt (-((k : Int) + 1)))
      clear A1
      go_wp2
      refine ⟨⟨k + 1, by omega, by omega, by go_num, Lib.hid ?_, Lib.hid (HK1.out.set (.inr (.inl rfl)) _)⟩, by simp [intOf]; omega⟩
      refine ⟨A2.out.var, A2.out.arr.trans (congrArg (fun z => some (Obj.cells z tEl (0, 0))) (cells_ext rfl ?_ ?_))⟩
      · intro i hi
        simp only [upd, halfA]
        by_cases h : i = k
        · subst h
          rw [if_pos rfl, if_neg (by omega), if_pos (by omega)]
        · rw [if_neg h]
          by_cases h2 : i < k
          · simp [h2, show i < k + 1 by omega]
          · simp [h2, show ¬ i < k + 1 by omega]
      · intro i hi
        simp only [upd, halfA]
        by_cases h : i = k
        · subst h
          rw [if_pos rfl, if_neg (by omega), if_pos (by omega)]
        · rw [if_neg h]
          by_cases h2 : i < k
          · simp [h2, show i < k + 1 by omega]
          · simp [h2, show ¬ i < k + 1 by omega]
    · obtain rfl : k = N := by omega
      obtain ⟨m, rfl⟩ : ∃ m, k = m + 1 := ⟨k - 1, by omega⟩
      have h0 : wr.cell? ⟨g, 2, none⟩ = some (.int .i32 ((halfA (m + 1) (m + 1)).b 1)) := HA.out.cb (i := 1) (by show 1 < m + 1; omega)
      have hf := HA.out.f 2
      go_upto_region 10 with fail
      generalize hw1 : World.setCell _ _ _ = w1
      have A1 := HA.out.set_b (i := 1) (by show 1 < m + 1; omega) (-(m : Int))
      rw [show 1 * 2 = 2 from rfl, hw1] at A1
      have HK1 : Hid (Kp dp g w w1) := Lib.hid (by
        subst hw1
        exact HK.out.set (.inr (.inl rfl)) _)
      clear hw1 hv h0 hf HA HK
      have hv : w1.cell? ⟨dp, 0, none⟩ = some (.slice (some ⟨g, 0, none⟩) (m + 1) (m + 1)) := A1.cv
      have h0 : w1.cell? ⟨g, m * 2 + 1, none⟩ = some (.int .i32 ((halfA (m + 1) (m + 1)).c m)) := A1.cc (i := m) (by show m < m + 1; omega)
      have hf := A1.f (m * 2 + 1)
      have A2 := Lib.hid (A1.set_c (i := m) (by show m < m + 1; omega) (-1))
      clear A1
      go_wp2
      go_end0
      refine ⟨rfl, g, ?_, by rw [G.out]; exact Nat.le_refl _, HK1.out.set (.inr (.inl rfl)) _⟩
      have hN := HN.out
      obtain rfl : m = 51199 := by omega
      refine ⟨A2.out.var, A2.out.arr.trans (congrArg (fun z => some (Obj.cells z tEl (0, 0))) (cells_ext rfl ?_ ?_))⟩
      · intro i hi
        have hi' : i < 51200 := hi
        simp only [upd, halfA, fresh]
        by_cases h : i = 1
        · subst h; rfl
        · rw [if_neg h, if_neg h]
          by_cases h2 : i = 0
          · rw [if_pos h2, if_pos h2]
          · rw [if_neg h2, if_neg h2, if_pos (by omega)]
      · intro i hi
        have hi' : i < 51200 := hi
        simp only [upd, halfA, fresh]
        by_cases h : i = 51199
        · subst h; rfl
        · rw [if_neg h]
          by_cases h2 : i = 0
          · rw [if_pos h2, if_pos h2]
          · rw [if_neg h2, if_neg h2, if_pos (by omega), if_neg (by omega)]
end Go.Proofs.Ytjifoimkjgepcaa.Da
