/-
  The walks of zzRead: a number out of its bytes, the least one first.
-/
import Derived.Test.YtjifoimkjgepcaaDoorRt
import Derived.Lib.EndianBits
set_option linter.unusedVariables false
set_option linter.unusedSimpArgs false
namespace Go.Proofs.YtjifoimkjgepcaaDoor.Z
open Go.RowKit Go.Proofs.YtjifoimkjgepcaaDoor.K Go.Proofs.YtjifoimkjgepcaaDoorW.PrintWords

theorem or_step (U : Int) (h0 : 0 ≤ U) (h1 : U < 18446744073709551616) (k : Nat) (hk : k < 8) : bits .or .u64 (U % 2 ^ (8 * k)) (IntKind.u64.wrap (U / 2 ^ (8 * k) % 256 * 2 ^ (8 * k))) = U % 2 ^ (8 * (k + 1)) := by
  have h : k = 0 ∨ k = 1 ∨ k = 2 ∨ k = 3 ∨ k = 4 ∨ k = 5 ∨ k = 6 ∨ k = 7 := by omega
  rcases h with rfl | rfl | rfl | rfl | rfl | rfl | rfl | rfl
  all_goals
    simp only [Nat.mul_zero, Nat.zero_add, Nat.mul_one, Nat.reduceMul, Nat.reduceAdd, Int.reducePow]
    rw [wraps_u64 _ (by omega) (by omega)]
  · rw [bits_join_low .u64 64 (by decide) wraps_u64 0 _ _ (by omega) (by omega) (by omega) (by omega) (by omega) (by omega)]
    omega
  · rw [bits_join_low .u64 64 (by decide) wraps_u64 8 _ _ (by omega) (by omega) (by omega) (by omega) (by omega) (by omega)]
    omega
  · rw [bits_join_low .u64 64 (by decide) wraps_u64 16 _ _ (by omega) (by omega) (by omega) (by omega) (by omega) (by omega)]
    omega
  · rw [bits_join_low .u64 64 (by decide) wraps_u64 24 _ _ (by omega) (by omega) (by omega) (by omega) (by omega) (by omega)]
    omega
  · rw [bits_join_low .u64 64 (by decide) wraps_u64 32 _ _ (by omega) (by omega) (by omega) (by omega) (by omega) (by omega)]
    omega
  · rw [bits_join_low .u64 64 (by decide) wraps_u64 40 _ _ (by omega) (by omega) (by omega) (by omega) (by omega) (by omega)]
    omega
  · rw [bits_join_low .u64 64 (by decide) wraps_u64 48 _ _ (by omega) (by omega) (by omega) (by omega) (by omega) (by omega)]
    omega
  · rw [bits_join_low .u64 64 (by decide) wraps_u64 56 _ _ (by omega) (by omega) (by omega) (by omega) (by omega) (by omega)]
    omega
theorem wrap_u64_range (v : Int) : 0 ≤ IntKind.u64.wrap v ∧ IntKind.u64.wrap v < 18446744073709551616 := by
  rw [IntKind.wrap_u64]
  omega
theorem leB_get (v : Int) (n k : Nat) (h : k < n) : (nums .u8 (leB v n))[k]? = some (.int .u8 (IntKind.u64.wrap v / 2 ^ (8 * k) % 256)) := by
  simp [nums, leB, h]
/-- A reader in a block: it reads a slice, and stands at a place. -/
def Rdr (rb : Nat) (ad : Addr) (L cS pos : Nat) (w : World) : Prop := ∃ prev, w.heap[rb]? = some (.cells #[.slice (some ad) L cS, .int .i64 pos, .int .i64 prev] tRd (0, 0))

theorem back_i64 (v : Int) (h : -9223372036854775808 ≤ v ∧ v ≤ 9223372036854775807) : wrap64 (IntKind.u64.wrap v % 18446744073709551616) = v := by
  rw [IntKind.wrap_u64]; unfold wrap64; omega
set_option maxHeartbeats 1000000 in
set_option maxRecDepth 5000 in
theorem read_i64 (rb L cS pos vb off T : Nat) (ad : Addr) (cells : Array Value) (v0 v : Int) (w : World) (hv : -9223372036854775808 ≤ v ∧ v ≤ 9223372036854775807)
    (hr : Rdr rb ad L cS pos w) (hvb : w.heap[vb]? = some (.cells cells T (0, 0))) (hoff : cells[off]? = some (.int .i64 v0)) (hT : T ≠ tRd)
    (hl : pos + 8 ≤ L) (hL : L ≤ cS) (hcS : L ≤ maxLen) (had : ad.block ≠ rb) (hsrc : ∀ j x, (nums .u8 (leB v 8))[j]? = some x → w.cell? ((ad.add pos).add j) = some x) :
    Calls Tryd.prog 39 #[.iface tpRd (.pointer (some ⟨rb, 0, none⟩)), .pointer (some ⟨vb, off, none⟩)] w fun e w' => e = .returned .nilIface ∧ Rdr rb ad L cS (pos + 8) w' ∧
      w'.heap[vb]? = some (.cells (cells.setIfInBounds off (.int .i64 v)) T (0, 0)) ∧ Keeps (fun i => i = rb ∨ i = vb) w w' := by
  obtain ⟨prev, hr⟩ := hr
  have hmk : ∀ W : World, (Instr.makeSlice 33 (.int .i64 8) (.int .i64 8)).run Tryd.prog W = .ok (.slice (some ⟨W.heap.size, 0, none⟩) 8 8) (W.alloc (.cells (laid v 0 8) U8)) := fun W => by
    rw [laid_zero]
    exact run_make_row' (P := Tryd.prog) 33 5 (.int .u8 0) 1 Tryd.underlying33 (by kernel_rfl) rfl .i64 .i64 8 (by omega) (by omega) W
  have hrv : rb ≠ vb := typ_ne hr hvb (Ne.symm hT)
  have hrlt := lt_of_heap hr
  have hvlt := lt_of_heap hvb
  have hcv : w.cell? ⟨vb, off, none⟩ = some (.int .i64 v0) := (cell_block hvb off).trans hoff
  have hR := Lib.hid (show (w.alloc (.cells (laid v 0 8) U8)).heap[rb]? = _ from blk_alloc hr _)
  have hG := Lib.hid (heap_alloc_new w (.cells (laid v 0 8) U8))
  have hV := Lib.hid (show (w.alloc (.cells (laid v 0 8) U8)).heap[vb]? = _ from blk_alloc hvb _)
  have hS := Lib.hid (show ∀ j x, (nums .u8 (leB v 8))[j]? = some x → (w.alloc (.cells (laid v 0 8) U8)).cell? ((ad.add pos).add j) = some x from fun j x hx => (World.cell?_alloc_lt _ _ _ (World.block_lt_of_cell? w _ (hsrc j x hx))).trans (hsrc j x hx))
  have hOff := Lib.hid hoff
  clear hr hvb hsrc hoff
  go_enter Tryd.func39, Tryd.ntmps39
  go_wp2_with fail
  refine (size_i64 v0 w).mono ?_
  rintro e w1 ⟨rfl, rfl⟩
  go_wp2_with fail
  refine (readFull_full rb w1.heap.size 8 8 L cS pos prev ad _ (nums .u8 (leB v 8)) _ hR.out hG.out (laid_size _ _ _ (Nat.zero_le _)) (by omega) (by omega) (by omega) hl hL hcS (by simp [nums, leB]) (one_nums _ _) had hS.out).mono ?_
  rintro e w2 ⟨rfl, hr2, hg2, hk2⟩
  have HR2 := Lib.hid hr2
  have HG2 := Lib.hid hg2
  have HV2 := Lib.hid ((hk2.block vb (by simp; omega) (by omega)).trans hV.out)
  have HK2 := Lib.hid ((Keeps.of_below (S := fun i => i = rb ∨ i = w1.heap.size) (below_alloc (Below.refl _ w1) _)).trans hk2)
  clear hr2 hg2 hk2 hR hG hV hS
  go_wp2
  go_loopw [26, 8] (fun i u wr => ∃ k : Nat, k ≤ 8 ∧ i = .int .i64 k ∧ u = .int .u64 (IntKind.u64.wrap v % 2 ^ (8 * k)) ∧ wr = w2) (fun i _ _ => 8 - (intOf i).toNat)
  case atStart => exact ⟨0, Nat.zero_le _, rfl, by simp, rfl⟩
  case round =>
    obtain ⟨k, hk, rfl, rfl, rfl⟩ := hrel
    by_cases hlt : k < 8
    · have hc : wr.cell? ⟨w1.heap.size, k, none⟩ = some (.int .u8 (IntKind.u64.wrap v / 2 ^ (8 * k) % 256)) := by
        rw [cell_block HG2.out]
        simpa using leB_get v 8 k hlt
      have hor := or_step (IntKind.u64.wrap v) (wrap_u64_range v).1 (wrap_u64_range v).2 k (by omega)
      go_wp2
      exact ⟨⟨k + 1, by omega, by go_num, rfl, trivial⟩, by simp [intOf]; omega⟩
    · obtain rfl : k = 8 := by omega
      have hback := back_i64 v hv
      have hcv2 : wr.cell? ⟨vb, off, none⟩ = some (.int .i64 v0) := (cell_block HV2.out off).trans hOff.out
      have hfv2 := frozen_block HV2.out off
      go_wp2
      go_ret
      try rw [hback]
      refine ⟨rfl, ⟨_, (Below.heap_setCell _ _ _ _ hrv).trans HR2.out⟩, Lib.heap_setCell_same HV2.out _, Keeps.setCell ?_ (.inr rfl) _⟩
      exact HK2.out.mono fun i hi hs => hs.imp id (fun h => absurd hi (by omega))

theorem back_i32 (v : Int) (h : -2147483648 ≤ v ∧ v ≤ 2147483647) : IntKind.i32.wrap (IntKind.u64.wrap v % 4294967296) = v := by
  rw [IntKind.wrap_u64]; simp [IntKind.wrap, IntKind.bits, IntKind.signed]; omega
set_option maxHeartbeats 1000000 in
set_option maxRecDepth 5000 in
theorem read_i32 (rb L cS pos vb off T : Nat) (ad : Addr) (cells : Array Value) (v0 v : Int) (w : World) (hv : -2147483648 ≤ v ∧ v ≤ 2147483647)
    (hr : Rdr rb ad L cS pos w) (hvb : w.heap[vb]? = some (.cells cells T (0, 0))) (hoff : cells[off]? = some (.int .i32 v0)) (hT : T ≠ tRd)
    (hl : pos + 4 ≤ L) (hL : L ≤ cS) (hcS : L ≤ maxLen) (had : ad.block ≠ rb) (hsrc : ∀ j x, (nums .u8 (leB v 4))[j]? = some x → w.cell? ((ad.add pos).add j) = some x) :
    Calls Tryd.prog 40 #[.iface tpRd (.pointer (some ⟨rb, 0, none⟩)), .pointer (some ⟨vb, off, none⟩)] w fun e w' => e = .returned .nilIface ∧ Rdr rb ad L cS (pos + 4) w' ∧
      w'.heap[vb]? = some (.cells (cells.setIfInBounds off (.int .i32 v)) T (0, 0)) ∧ Keeps (fun i => i = rb ∨ i = vb) w w' := by
  obtain ⟨prev, hr⟩ := hr
  have hmk : ∀ W : World, (Instr.makeSlice 33 (.int .i64 4) (.int .i64 4)).run Tryd.prog W = .ok (.slice (some ⟨W.heap.size, 0, none⟩) 4 4) (W.alloc (.cells (laid v 0 4) U8)) := fun W => by
    rw [laid_zero]
    exact run_make_row' (P := Tryd.prog) 33 5 (.int .u8 0) 1 Tryd.underlying33 (by kernel_rfl) rfl .i64 .i64 4 (by omega) (by omega) W
  have hrv : rb ≠ vb := typ_ne hr hvb (Ne.symm hT)
  have hrlt := lt_of_heap hr
  have hvlt := lt_of_heap hvb
  have hcv : w.cell? ⟨vb, off, none⟩ = some (.int .i32 v0) := (cell_block hvb off).trans hoff
  have hR := Lib.hid (show (w.alloc (.cells (laid v 0 4) U8)).heap[rb]? = _ from blk_alloc hr _)
  have hG := Lib.hid (heap_alloc_new w (.cells (laid v 0 4) U8))
  have hV := Lib.hid (show (w.alloc (.cells (laid v 0 4) U8)).heap[vb]? = _ from blk_alloc hvb _)
  have hS := Lib.hid (show ∀ j x, (nums .u8 (leB v 4))[j]? = some x → (w.alloc (.cells (laid v 0 4) U8)).cell? ((ad.add pos).add j) = some x from fun j x hx => (World.cell?_alloc_lt _ _ _ (World.block_lt_of_cell? w _ (hsrc j x hx))).trans (hsrc j x hx))
  have hOff := Lib.hid hoff
  clear hr hvb hsrc hoff
  go_enter Tryd.func40, Tryd.ntmps40
  go_wp2_with fail
  refine (size_i32 v0 w).mono ?_
  rintro e w1 ⟨rfl, rfl⟩
  go_wp2_with fail
  refine (readFull_full rb w1.heap.size 4 4 L cS pos prev ad _ (nums .u8 (leB v 4)) _ hR.out hG.out (laid_size _ _ _ (Nat.zero_le _)) (by omega) (by omega) (by omega) hl hL hcS (by simp [nums, leB]) (one_nums _ _) had hS.out).mono ?_
  rintro e w2 ⟨rfl, hr2, hg2, hk2⟩
  have HR2 := Lib.hid hr2
  have HG2 := Lib.hid hg2
  have HV2 := Lib.hid ((hk2.block vb (by simp; omega) (by omega)).trans hV.out)
  have HK2 := Lib.hid ((Keeps.of_below (S := fun i => i = rb ∨ i = w1.heap.size) (below_alloc (Below.refl _ w1) _)).trans hk2)
  clear hr2 hg2 hk2 hR hG hV hS
  go_wp2
  go_loopw [26, 8] (fun i u wr => ∃ k : Nat, k ≤ 4 ∧ i = .int .i64 k ∧ u = .int .u64 (IntKind.u64.wrap v % 2 ^ (8 * k)) ∧ wr = w2) (fun i _ _ => 4 - (intOf i).toNat)
  case atStart => exact ⟨0, Nat.zero_le _, rfl, by simp, rfl⟩
  case round =>
    obtain ⟨k, hk, rfl, rfl, rfl⟩ := hrel
    by_cases hlt : k < 4
    · have hc : wr.cell? ⟨w1.heap.size, k, none⟩ = some (.int .u8 (IntKind.u64.wrap v / 2 ^ (8 * k) % 256)) := by
        rw [cell_block HG2.out]
        simpa using leB_get v 4 k hlt
      have hor := or_step (IntKind.u64.wrap v) (wrap_u64_range v).1 (wrap_u64_range v).2 k (by omega)
      go_wp2
      exact ⟨⟨k + 1, by omega, by go_num, rfl, trivial⟩, by simp [intOf]; omega⟩
    · obtain rfl : k = 4 := by omega
      have hback := back_i32 v hv
      have hcv2 : wr.cell? ⟨vb, off, none⟩ = some (.int .i32 v0) := (cell_block HV2.out off).trans hOff.out
      have hfv2 := frozen_block HV2.out off
      go_wp2
      go_ret
      try rw [hback]
      refine ⟨rfl, ⟨_, (Below.heap_setCell _ _ _ _ hrv).trans HR2.out⟩, Lib.heap_setCell_same HV2.out _, Keeps.setCell ?_ (.inr rfl) _⟩
      exact HK2.out.mono fun i hi hs => hs.imp id (fun h => absurd hi (by omega))
end Go.Proofs.YtjifoimkjgepcaaDoor.Z
