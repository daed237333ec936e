/-
  The walks of zzSize and zzWrite: a number's bytes, the least one first, behind what a buffer holds.
-/
import Derived.Test.YtjifoimkjgepcaaDoorK
import Derived.Test.YtjifoimkjgepcaaDoorShelf
set_option linter.unusedVariables false
set_option linter.unusedSimpArgs false
namespace Go.Proofs.YtjifoimkjgepcaaDoor.Z
open Go.RowKit Go.Proofs.YtjifoimkjgepcaaDoor.K Go.Proofs.YtjifoimkjgepcaaDoorW.PrintWords

abbrev U8 : Nat := 5
abbrev tBuf : Nat := 80
/-- The bytes of a number, the least one first. -/
def leB (v : Int) (n : Nat) : List Int := (List.range n).map fun i => IntKind.u64.wrap v / 2 ^ (8 * i) % 256
theorem leB_length (v : Int) (n : Nat) : (leB v n).length = n := by simp [leB]
theorem leB_succ (v : Int) (n : Nat) : leB v (n + 1) = leB v n ++ [IntKind.u64.wrap v / 2 ^ (8 * n) % 256] := by simp [leB, List.range_succ]
theorem leB_bounds {v : Int} {n : Nat} {z : Int} (h : z ∈ leB v n) : 0 ≤ z ∧ z ≤ 255 := by
  obtain ⟨i, _, rfl⟩ := List.mem_map.1 h
  have := Int.emod_nonneg (IntKind.u64.wrap v / 2 ^ (8 * i)) (by decide : (256 : Int) ≠ 0)
  have := Int.emod_lt_of_pos (IntKind.u64.wrap v / 2 ^ (8 * i)) (by decide : (0 : Int) < 256)
  omega
/-- The cells while a number's bytes are laid: n of N. -/
def laid (v : Int) (n N : Nat) : Array Value := (nums .u8 (leB v n ++ List.replicate (N - n) 0)).toArray
theorem laid_size (v : Int) (n N : Nat) (h : n ≤ N) : (laid v n N).size = N := by simp [laid, nums, leB]; omega
theorem laid_zero (v : Int) (N : Nat) : laid v 0 N = madeCells #[.int .u8 0] N := by
  apply Array.ext'
  simp [laid, leB, nums, madeCells, Array.flatten, List.map_replicate]
  rw [eq_comm, List.eq_replicate_iff]
  refine ⟨by simp, fun x hx => ?_⟩
  obtain ⟨i, _, rfl⟩ := List.mem_map.1 hx
  simp [Nat.mod_one]
theorem laid_set (v : Int) (n N : Nat) (h : n < N) : (laid v n N).setIfInBounds n (.int .u8 (IntKind.u64.wrap v / 2 ^ (8 * n) % 256)) = laid v (n + 1) N := by
  apply Array.ext'
  rw [Array.toList_setIfInBounds]
  obtain ⟨m, rfl⟩ : ∃ m, N = n + 1 + m := ⟨N - (n + 1), by omega⟩
  have e1 : n + 1 + m - n = m + 1 := by omega
  have e2 : n + 1 + m - (n + 1) = m := by omega
  simp only [laid, leB_succ, nums, e1, e2, List.replicate_succ, List.map_append, List.map_cons, List.append_assoc, List.map_nil, List.nil_append, List.cons_append]
  have hl : (List.map (Value.int .u8) (leB v n)).length = n := by simp [leB]
  rw [List.set_append_right _ _ (by rw [hl]; exact Nat.le_refl _), hl, Nat.sub_self]
  rfl
theorem laid_all (v : Int) (N : Nat) : laid v N N = (nums .u8 (leB v N)).toArray := by simp [laid]

/-- A buffer in a block of its own, which holds these bytes. -/
def Buf (B b : Nat) (xs : List Int) (w : World) : Prop := LibA.IsBuffer tBuf (fun _ => none) U8 B b 0 (nums .u8 xs) w
theorem one_nums (k : IntKind) (xs : List Int) : ∀ v ∈ nums k xs, v.oneCell' = true := by
  intro v hv
  obtain ⟨x, _, rfl⟩ := List.mem_map.1 hv
  rfl
theorem frozen_block {w : World} {g : Nat} {cs : Array Value} {t : TypeId} (h : w.heap[g]? = some (.cells cs t (0, 0))) (i : Nat) : w.frozen? ⟨g, i, none⟩ = false := by simp [World.frozen?, h]
theorem cell_block {w : World} {g : Nat} {cs : Array Value} {t : TypeId} (h : w.heap[g]? = some (.cells cs t (0, 0))) (i : Nat) : w.cell? ⟨g, i, none⟩ = cs[i]? := by simp [World.cell?, h]

theorem size_i64 (v : Int) (w : World) : Calls Tryd.prog 56 #[.int .i64 v] w fun e w' => e = .returned (.int .i64 8) ∧ w' = w := by
  have h_int8 : ∀ W, (Instr.typeAssert (.iface 2 (.int .i64 v)) 20 77 true).run Tryd.prog W = .ok (.tuple #[.int .i8 0, .bool false]) W := fun W => by kernel_rfl
  have h_int16 : ∀ W, (Instr.typeAssert (.iface 2 (.int .i64 v)) 20 62 true).run Tryd.prog W = .ok (.tuple #[.int .i16 0, .bool false]) W := fun W => by kernel_rfl
  have h_int32 : ∀ W, (Instr.typeAssert (.iface 2 (.int .i64 v)) 20 21 true).run Tryd.prog W = .ok (.tuple #[.int .i32 0, .bool false]) W := fun W => by kernel_rfl
  go_enter Tryd.func56, Tryd.ntmps56
  go_wp2
  go_ret
  exact ⟨rfl, rfl⟩
set_option maxHeartbeats 1000000 in
set_option maxRecDepth 5000 in
theorem write_i64 (B b : Nat) (xs : List Int) (v : Int) (w : World) (hb : Buf B b xs w) (hB : B ≤ w.heap.size) (hl : xs.length + 8 ≤ 140737488355328) :
    Calls Tryd.prog 55 #[.iface 83 (.pointer (some ⟨b, 0, none⟩)), .int .i64 v] w fun e w' => e = .returned .nilIface ∧ Buf B b (xs ++ leB v 8) w' ∧ Below B w w' ∧ Lib.OthersKept U8 (some b) w w' := by
  have hmk : ∀ W : World, (Instr.makeSlice 33 (.int .i64 8) (.int .i64 8)).run Tryd.prog W = .ok (.slice (some ⟨W.heap.size, 0, none⟩) 8 8) (W.alloc (.cells (laid v 0 8) U8)) := fun W => by
    rw [laid_zero]
    exact run_make_row' (P := Tryd.prog) 33 5 (.int .u8 0) 1 Tryd.underlying33 (by kernel_rfl) rfl .i64 .i64 8 (by omega) (by omega) W
  have HBuf := Lib.hid hb
  have hbw : b < w.heap.size := hb.lt
  clear hb
  go_enter Tryd.func55, Tryd.ntmps55
  go_wp2_with fail
  refine (size_i64 v w).mono ?_
  rintro e w1 ⟨rfl, rfl⟩
  go_wp2
  go_loopw [17] (fun i wr => ∃ k : Nat, k ≤ 8 ∧ i = .int .i64 k ∧ Hid (wr.heap[w1.heap.size]? = some (.cells (laid v k 8) U8 (0, 0))) ∧ Hid (Below w1.heap.size w1 wr)) (fun i _ => 8 - (intOf i).toNat)
  case atStart => exact ⟨0, Nat.zero_le _, rfl, Lib.hid (heap_alloc_new _ _), Lib.hid (below_alloc (Below.refl _ _) _)⟩
  case round =>
    obtain ⟨k, hk, rfl, hblk, hbel⟩ := hrel
    by_cases hlt : k < 8
    · have hc : wr.cell? ⟨w1.heap.size, k, none⟩ = some (laid v k 8)[k]! := by
        rw [cell_block hblk.out, getElem!_pos _ _ (by rw [laid_size _ _ _ hk]; exact hlt)]
        exact Array.getElem?_eq_getElem _
      have hf := frozen_block hblk.out k
      go_wp2
      refine ⟨⟨k + 1, by omega, by go_num, Lib.hid ?_, Lib.hid (hbel.out.setCell (p := ⟨w1.heap.size, k, none⟩) (Nat.le_refl _) _)⟩, by simp [intOf]; omega⟩
      rw [Lib.heap_setCell_same hblk.out, laid_set _ _ _ hlt]
    · obtain rfl : k = 8 := by omega
      have h2 := hblk.out
      rw [laid_all] at h2
      have HB2 := Lib.hid h2
      have HBufr : Hid (Buf B b xs wr) := Lib.hid (by
        obtain ⟨hBb, v0, lr, hbk, hown, hne⟩ := HBuf.out
        exact ⟨hBb, v0, lr, hbk.of_heap (hbel.out.block _ hbw), hown.kept (grown_of_below hbel.out (some b)) (Or.inr hne), hne⟩)
      have hsz := hbel.out.size
      have hgs := lt_of_heap h2
      clear h2
      go_wp2_with fail
      refine (Tryd.Buffer_Write_at tBuf (fun _ => none) B b 0 (nums .u8 xs) (nums .u8 (leB v 8)) ⟨w1.heap.size, 0, none⟩ 8 8 wr HBufr.out (by omega) (one_nums _ _) (by simp [nums, leB]) (by show w1.heap.size ≠ b; omega) (fun j x hx => by rw [add_plain, cell_block HB2.out]; simpa using hx) (one_nums _ _) (by rw [nums_length]; exact hl)).mono ?_
      rintro e w2 ⟨rfl, hb2, hw2, ho2⟩
      have H2 := Lib.hid (And.intro hb2 (And.intro hw2 ho2))
      clear hb2 hw2 ho2
      go_wp2
      go_ret
      obtain ⟨hb2, hw2, ho2⟩ := H2.out
      refine ⟨rfl, ?_, ?_, ?_⟩
      · unfold Buf
        rw [nums_append]
        exact hb2
      · exact (hbel.out.mono hB).trans hw2
      · refine Lib.OthersKept.trans ?_ ho2
        intro i o hi _ _
        exact (hbel.out.block i (lt_of_heap hi)).trans hi

theorem size_i32 (v : Int) (w : World) : Calls Tryd.prog 58 #[.int .i32 v] w fun e w' => e = .returned (.int .i64 4) ∧ w' = w := by
  have h_int8 : ∀ W, (Instr.typeAssert (.iface 21 (.int .i32 v)) 20 77 true).run Tryd.prog W = .ok (.tuple #[.int .i8 0, .bool false]) W := fun W => by kernel_rfl
  have h_int16 : ∀ W, (Instr.typeAssert (.iface 21 (.int .i32 v)) 20 62 true).run Tryd.prog W = .ok (.tuple #[.int .i16 0, .bool false]) W := fun W => by kernel_rfl
  have h_int32 : ∀ W, (Instr.typeAssert (.iface 21 (.int .i32 v)) 20 21 true).run Tryd.prog W = .ok (.tuple #[.int .i32 v, .bool true]) W := fun W => by kernel_rfl
  go_enter Tryd.func58, Tryd.ntmps58
  go_wp2
  go_ret
  exact ⟨rfl, rfl⟩
set_option maxHeartbeats 1000000 in
set_option maxRecDepth 5000 in
theorem write_i32 (B b : Nat) (xs : List Int) (v : Int) (w : World) (hb : Buf B b xs w) (hB : B ≤ w.heap.size) (hl : xs.length + 4 ≤ 140737488355328) :
    Calls Tryd.prog 57 #[.iface 83 (.pointer (some ⟨b, 0, none⟩)), .int .i32 v] w fun e w' => e = .returned .nilIface ∧ Buf B b (xs ++ leB v 4) w' ∧ Below B w w' ∧ Lib.OthersKept U8 (some b) w w' := by
  have hmk : ∀ W : World, (Instr.makeSlice 33 (.int .i64 4) (.int .i64 4)).run Tryd.prog W = .ok (.slice (some ⟨W.heap.size, 0, none⟩) 4 4) (W.alloc (.cells (laid v 0 4) U8)) := fun W => by
    rw [laid_zero]
    exact run_make_row' (P := Tryd.prog) 33 5 (.int .u8 0) 1 Tryd.underlying33 (by kernel_rfl) rfl .i64 .i64 4 (by omega) (by omega) W
  have HBuf := Lib.hid hb
  have hbw : b < w.heap.size := hb.lt
  clear hb
  go_enter Tryd.func57, Tryd.ntmps57
  go_wp2_with fail
  refine (size_i32 v w).mono ?_
  rintro e w1 ⟨rfl, rfl⟩
  go_wp2
  go_loopw [17] (fun i wr => ∃ k : Nat, k ≤ 4 ∧ i = .int .i64 k ∧ Hid (wr.heap[w1.heap.size]? = some (.cells (laid v k 4) U8 (0, 0))) ∧ Hid (Below w1.heap.size w1 wr)) (fun i _ => 4 - (intOf i).toNat)
  case atStart => exact ⟨0, Nat.zero_le _, rfl, Lib.hid (heap_alloc_new _ _), Lib.hid (below_alloc (Below.refl _ _) _)⟩
  case round =>
    obtain ⟨k, hk, rfl, hblk, hbel⟩ := hrel
    by_cases hlt : k < 4
    · have hc : wr.cell? ⟨w1.heap.size, k, none⟩ = some (laid v k 4)[k]! := by
        rw [cell_block hblk.out, getElem!_pos _ _ (by rw [laid_size _ _ _ hk]; exact hlt)]
        exact Array.getElem?_eq_getElem _
      have hf := frozen_block hblk.out k
      go_wp2
      refine ⟨⟨k + 1, by omega, by go_num, Lib.hid ?_, Lib.hid (hbel.out.setCell (p := ⟨w1.heap.size, k, none⟩) (Nat.le_refl _) _)⟩, by simp [intOf]; omega⟩
      rw [Lib.heap_setCell_same hblk.out, laid_set _ _ _ hlt]
    · obtain rfl : k = 4 := by omega
      have h2 := hblk.out
      rw [laid_all] at h2
      have HB2 := Lib.hid h2
      have HBufr : Hid (Buf B b xs wr) := Lib.hid (by
        obtain ⟨hBb, v0, lr, hbk, hown, hne⟩ := HBuf.out
        exact ⟨hBb, v0, lr, hbk.of_heap (hbel.out.block _ hbw), hown.kept (grown_of_below hbel.out (some b)) (Or.inr hne), hne⟩)
      have hsz := hbel.out.size
      have hgs := lt_of_heap h2
      clear h2
      go_wp2_with fail
      refine (Tryd.Buffer_Write_at tBuf (fun _ => none) B b 0 (nums .u8 xs) (nums .u8 (leB v 4)) ⟨w1.heap.size, 0, none⟩ 4 4 wr HBufr.out (by omega) (one_nums _ _) (by simp [nums, leB]) (by show w1.heap.size ≠ b; omega) (fun j x hx => by rw [add_plain, cell_block HB2.out]; simpa using hx) (one_nums _ _) (by rw [nums_length]; exact hl)).mono ?_
      rintro e w2 ⟨rfl, hb2, hw2, ho2⟩
      have H2 := Lib.hid (And.intro hb2 (And.intro hw2 ho2))
      clear hb2 hw2 ho2
      go_wp2
      go_ret
      obtain ⟨hb2, hw2, ho2⟩ := H2.out
      refine ⟨rfl, ?_, ?_, ?_⟩
      · unfold Buf
        rw [nums_append]
        exact hb2
      · exact (hbel.out.mono hB).trans hw2
      · refine Lib.OthersKept.trans ?_ ho2
        intro i o hi _ _
        exact (hbel.out.block i (lt_of_heap hi)).trans hi
end Go.Proofs.YtjifoimkjgepcaaDoor.Z
