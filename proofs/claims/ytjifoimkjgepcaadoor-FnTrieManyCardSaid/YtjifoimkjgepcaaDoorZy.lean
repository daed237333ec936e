/-
  The walk of DoubleArray.WriteTo into a bytes.Buffer.
-/
import Derived.Test.YtjifoimkjgepcaaDoorZx
import Derived.Test.YtjifoimkjgepcaaDoorDy
set_option linter.unusedVariables false
set_option linter.unusedSimpArgs false
namespace Go.Proofs.YtjifoimkjgepcaaDoor.Da
open Go.RowKit Go.ChangeShapes Go.Proofs.YtjifoimkjgepcaaDoor.K Go.Proofs.YtjifoimkjgepcaaDoor.Z Go.Proofs.YtjifoimkjgepcaaDoorW.PrintWords

/-- The bytes of the first k cells. -/
def daB (A : DA) (k : Nat) : List Int := (List.range k).flatMap fun i => leB (A.b i) 4 ++ leB (A.c i) 4
theorem daB_succ (A : DA) (k : Nat) : daB A (k + 1) = daB A k ++ leB (A.b k) 4 ++ leB (A.c k) 4 := by
  unfold daB
  rw [List.range_succ, List.flatMap_append]
  simp
theorem daB_length (A : DA) : ∀ k, (daB A k).length = 8 * k
  | 0 => rfl
  | k + 1 => by rw [daB_succ, List.length_append, List.length_append, leB_length, leB_length, daB_length A k]; omega
theorem box_kept {w w' : World} {b g : Nat} {cs : Array Value} {t : TypeId} (h : w.heap[g]? = some (.cells cs t (0, 0))) (ho : Lib.OthersKept U8 (some b) w w') (hb : g ≠ b) (ht : t ≠ U8) : w'.heap[g]? = some (.cells cs t (0, 0)) :=
  ho g _ h (by simpa using hb) (by rintro c fz e; injection e with _ e _; exact ht e)
theorem buf_alloc {B b : Nat} {xs : List Int} {w : World} (h : Buf B b xs w) (o : Obj) : Buf B b xs (w.alloc o) := by
  have hblt := h.lt
  obtain ⟨hBb, v0, lr, hbk, hown, hne⟩ := h
  exact ⟨hBb, v0, lr, hbk.of_heap (Below.heap_alloc _ _ _ hblt), hown.kept (grown_of_below (below_alloc (Below.refl _ _) _) (some b)) (Or.inr hne), hne⟩

set_option maxHeartbeats 1000000 in
set_option maxRecDepth 100000 in
theorem da_writeTo (g : Nat) (A : DA) (B b : Nat) (bs : List Int) (w : World) (ha : w.heap[g]? = some (.cells (cellsOf A) tEl (0, 0))) (hgB : g < B) (hb : Buf B b bs w) (hB : B ≤ w.heap.size) (hn : A.n ≤ 536870918) (hl : bs.length ≤ 100) :
    Calls Tryd.prog 34 #[.slice (some ⟨g, 0, none⟩) A.n A.n, .iface 83 (.pointer (some ⟨b, 0, none⟩))] w fun e w' =>
      e = .returned (.tuple #[.int .i64 (8 + 8 * A.n : Nat), .nilIface]) ∧ Buf B b (bs ++ leB A.n 8 ++ daB A A.n) w' ∧ Below B w w' := by
  have HA := Lib.hid ha
  have HB0 := Lib.hid hb
  clear ha hb
  go_enter Tryd.func34, Tryd.ntmps34
  go_wp2_with fail
  refine (write_i64 B b bs A.n w HB0.out hB (by omega)).mono ?_
  rintro e w1 ⟨rfl, hb1, hl1, -⟩
  have HB1 := Lib.hid hb1
  have HL1 := Lib.hid hl1
  clear hb1 hl1
  go_wp2_with fail
  refine (size_i64 A.n w1).mono ?_
  rintro e w1' ⟨rfl, rfl⟩
  go_wp2_with fail
  go_loopw [27, 4, 9, 10, 11] (fun i n _ _ _ wr => ∃ k : Nat, k ≤ A.n ∧ i = .int .i64 k ∧ n = .int .i64 (8 + 8 * k : Nat) ∧ Hid (Buf B b (bs ++ leB A.n 8 ++ daB A k) wr) ∧ Hid (Below B w wr)) (fun i _ _ _ _ _ => A.n - (intOf i).toNat)
  case atStart => exact ⟨0, Nat.zero_le _, rfl, rfl, Lib.hid (by simpa [daB] using HB1.out), HL1⟩
  case round =>
    obtain ⟨k, hk, rfl, rfl, HBk, HLk⟩ := hrel
    have hs3 : B ≤ wr.heap.size := Nat.le_trans hB HLk.out.size
    by_cases hlt : k < A.n
    · have hg := (HLk.out.block g hgB).trans HA.out
      have c0 : wr.cell? ⟨g, k * 2, none⟩ = some (.int .i32 (A.b k)) := by rw [cell_of_heap hg, cells_b A hlt]
      have c1 : wr.cell? ⟨g, k * 2 + 1, none⟩ = some (.int .i32 (A.c k)) := by rw [cell_of_heap hg, cells_c A hlt]
      obtain ⟨y0, hy0⟩ : ∃ y, A.b k = y := ⟨_, rfl⟩
      obtain ⟨y1, hy1⟩ : ∃ y, A.c k = y := ⟨_, rfl⟩
      have HDB : Hid (daB A (k + 1) = daB A k ++ leB y0 4 ++ leB y1 4) := Lib.hid (by rw [daB_succ, hy0, hy1])
      rw [hy0] at c0
      rw [hy1] at c1
      clear hg hy0 hy1
      go_wp2_with fail
      have hlen1 : (bs ++ leB A.n 8 ++ daB A k).length + 4 ≤ 140737488355328 := by rw [List.length_append, List.length_append, leB_length, daB_length]; omega
      have hlen2 : (bs ++ leB A.n 8 ++ daB A k ++ leB y0 4).length + 4 ≤ 140737488355328 := by simp only [List.length_append, leB_length, daB_length]; omega
      have hbl := HBk.out.lt
      obtain ⟨wa, hwa⟩ : ∃ wa, wa = wr.alloc (.cells #[.int .i32 y0, .int .i32 y1] tEl) := ⟨_, rfl⟩
      obtain ⟨vb, hvb⟩ : ∃ vb, vb = wr.heap.size := ⟨_, rfl⟩
      have hbox : wa.heap[vb]? = some (.cells #[.int .i32 y0, .int .i32 y1] tEl (0, 0)) := by rw [hwa, hvb]; exact heap_new _ _
      have hba : Buf B b (bs ++ leB A.n 8 ++ daB A k) wa := by rw [hwa]; exact buf_alloc HBk.out _
      have hla : Below B w wa := by rw [hwa]; exact HLk.out.alloc hs3 _
      have hne : vb ≠ b := by omega
      rw [← hwa, ← hvb]
      clear hwa hvb c0 c1 hbl
      have hsa : B ≤ wa.heap.size := Nat.le_trans hB hla.size
      refine (write_i32 B b _ y0 wa hba hsa hlen1).mono ?_
      rintro e w4 ⟨rfl, hb4, hl4, ho4⟩
      have hbox4 := box_kept hbox ho4 hne (by decide)
      have HB4 := Lib.hid hb4
      have HL4 := Lib.hid (hla.trans hl4)
      have HX4 := Lib.hid hbox4
      have d0 : w4.cell? ⟨vb, 0, none⟩ = some (.int .i32 y0) := by rw [cell_of_heap hbox4]; rfl
      have d1 : w4.cell? ⟨vb, 1, none⟩ = some (.int .i32 y1) := by rw [cell_of_heap hbox4]; rfl
      clear hb4 hl4 ho4 hbox4 hbox hba hla hsa
      go_wp2_with fail
      refine (size_i32 y0 w4).mono ?_
      rintro e w4' ⟨rfl, rfl⟩
      go_wp2_with fail
      refine (write_i32 B b _ y1 w4' HB4.out (Nat.le_trans hB HL4.out.size) hlen2).mono ?_
      rintro e w5 ⟨rfl, hb5, hl5, ho5⟩
      have hbox5 := box_kept HX4.out ho5 hne (by decide)
      have HB5 := Lib.hid hb5
      have HL5 := Lib.hid (HL4.out.trans hl5)
      have f1 : w5.cell? ⟨vb, 1, none⟩ = some (.int .i32 y1) := by rw [cell_of_heap hbox5]; rfl
      clear hb5 hl5 ho5 hbox5 d0 d1
      go_wp2_with fail
      refine (size_i32 y1 w5).mono ?_
      rintro e w5' ⟨rfl, rfl⟩
      go_wp2_with fail
      refine ⟨⟨k + 1, by omega, by go_num, by go_num, Lib.hid ?_, HL5⟩, by simp [intOf]; omega⟩
      rw [HDB.out, ← List.append_assoc, ← List.append_assoc]
      exact HB5.out
    · obtain rfl : k = A.n := by omega
      go_wp2_with fail
      go_ret2
      exact ⟨rfl, HBk.out, HLk.out⟩
end Go.Proofs.YtjifoimkjgepcaaDoor.Da
