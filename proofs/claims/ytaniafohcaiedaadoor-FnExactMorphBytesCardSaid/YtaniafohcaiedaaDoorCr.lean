/-
  The walk of ReadConnectionTable: what was written is read.
-/
import Derived.Test.YtaniafohcaiedaaDoorCn
import Derived.Lib.SmallJoins
set_option linter.unusedVariables false
set_option linter.unusedSimpArgs false
namespace Go.Proofs.YtaniafohcaiedaaDoor.Z
open Go.RowKit Go.Proofs.YtaniafohcaiedaaDoor.K Go.Proofs.YtaniafohcaiedaaDoorW.PrintWords

/-- The bytes that lie at a place. -/
def Src (w : World) (ad : Addr) (xs : List Int) : Prop := ∀ j x, (nums .u8 xs)[j]? = some x → w.cell? (ad.add j) = some x
theorem Src.keeps {S : Nat → Prop} {w w' : World} {ad : Addr} {xs : List Int} (h : Src w ad xs) (k : Keeps S w w') (hs : ¬ S ad.block) : Src w' ad xs := by
  intro j x hx
  have h1 := h j x hx
  have hb : (ad.add j).block = ad.block := by unfold Addr.add; split <;> rfl
  have hlt := World.block_lt_of_cell? w _ h1
  have := k.block _ hlt (by rw [hb]; exact hs)
  unfold World.cell? at h1 ⊢
  rw [this]
  exact h1
theorem add_add' (ad : Addr) (i j : Nat) : (ad.add i).add j = ad.add (i + j) := by
  unfold Addr.add
  by_cases hi : i = 0
  · subst hi; simp
  · by_cases hj : j = 0
    · subst hj; simp [hi]
    · have : i + j ≠ 0 := by omega
      simp [hi, hj, this, Nat.add_assoc]
theorem Src.part {w : World} {ad : Addr} {xs : List Int} (h : Src w ad xs) (pos : Nat) (ys : List Int) (hp : ∃ a b, xs = a ++ ys ++ b ∧ a.length = pos) : ∀ j x, (nums .u8 ys)[j]? = some x → w.cell? ((ad.add pos).add j) = some x := by
  obtain ⟨a, b, rfl, rfl⟩ := hp
  intro j x hx
  rw [add_add']
  apply h
  have hj : j < ys.length := by
    have := (List.getElem?_eq_some_iff.1 hx).1
    simpa [nums] using this
  rw [nums_append, nums_append, List.getElem?_append_left (by simp [nums]; omega), List.getElem?_append_right (by simp [nums])]
  simpa [nums] using hx
/-- The cells while numbers are read: k of them. -/
def part (xs : List Int) (k : Nat) : Array Value := (nums .i16 (xs.take k ++ List.replicate (xs.length - k) 0)).toArray
theorem part_size (xs : List Int) (k : Nat) (h : k ≤ xs.length) : (part xs k).size = xs.length := by simp [part, nums]; omega
theorem part_zero (xs : List Int) : part xs 0 = madeCells #[.int .i16 0] xs.length := by
  apply Array.ext'
  simp [part, nums, madeCells, Array.flatten, List.map_replicate]
  rw [eq_comm, List.eq_replicate_iff]
  refine ⟨by simp, fun x hx => ?_⟩
  obtain ⟨i, _, rfl⟩ := List.mem_map.1 hx
  simp [Nat.mod_one]
theorem part_get (xs : List Int) (k : Nat) (h : k < xs.length) : (part xs k)[k]? = some (.int .i16 0) := by
  rw [part, List.getElem?_toArray, nums, List.getElem?_map, List.getElem?_append_right (by simp; omega), List.length_take, Nat.min_eq_left (by omega), Nat.sub_self, List.getElem?_replicate, if_pos (by omega)]
  rfl
theorem part_set (xs : List Int) (k : Nat) (h : k < xs.length) : (part xs k).setIfInBounds k (.int .i16 xs[k]) = part xs (k + 1) := by
  apply Array.ext'
  rw [Array.toList_setIfInBounds]
  obtain ⟨m, hm⟩ : ∃ m, xs.length = k + 1 + m := ⟨xs.length - (k + 1), by omega⟩
  have e1 : xs.length - k = m + 1 := by omega
  have e2 : xs.length - (k + 1) = m := by omega
  simp only [part, nums, e1, e2, List.take_succ_eq_append_getElem h, List.replicate_succ, List.map_append, List.map_cons, List.append_assoc, List.map_nil, List.nil_append, List.cons_append]
  have hl : (List.map (Value.int .i16) (xs.take k)).length = k := by simp; omega
  rw [List.set_append_right _ _ (by rw [hl]; exact Nat.le_refl _), hl, Nat.sub_self]
  rfl
theorem part_all (xs : List Int) : part xs xs.length = (nums .i16 xs).toArray := by simp [part]
theorem ct_at0 (a b : List Int) (xs : List Int) (k : Nat) (hk : k < xs.length) : ∃ p q, a ++ b ++ le2s xs = p ++ leB xs[k] 2 ++ q ∧ p.length = a.length + b.length + 2 * k := by
  refine ⟨a ++ b ++ le2s (xs.take k), le2s (xs.drop (k + 1)), ?_, ?_⟩
  · have : xs = xs.take (k + 1) ++ xs.drop (k + 1) := (List.take_append_drop _ _).symm
    conv => lhs; rw [this]
    rw [show le2s (xs.take (k + 1) ++ xs.drop (k + 1)) = le2s (xs.take (k + 1)) ++ le2s (xs.drop (k + 1)) from List.flatMap_append, le2s_take _ _ hk]
    simp
  · simp [le2s_length]; omega

abbrev Zct : Array Value := #[.int .i64 0, .int .i64 0, .slice none 0 0]
set_option maxHeartbeats 1000000 in
set_option maxRecDepth 5000 in
theorem ct_read (rows cols : Int) (xs : List Int) (rb cS : Nat) (ad : Addr) (w : World) (hr : 1 ≤ rows ∧ rows ≤ 64) (hc : 1 ≤ cols ∧ cols ≤ 64) (hx : (xs.length : Int) = rows * cols) (h16 : In16 xs)
    (hrd : Rdr rb ad (16 + 2 * xs.length) cS 0 w) (hcS : 16 + 2 * xs.length ≤ cS) (hcM : cS ≤ maxLen) (had : ad.block ≠ rb) (hadl : ad.block < w.heap.size) (hsrc : Src w ad (leB rows 8 ++ leB cols 8 ++ le2s xs)) :
    Calls Tryd.prog 41 #[.iface tpRd (.pointer (some ⟨rb, 0, none⟩))] w fun e w' =>
      ∃ A, e = .returned (.tuple #[.agg #[.int .i64 rows, .int .i64 cols, .slice A xs.length xs.length], .nilIface]) ∧ (Kd.int .i16).C w' A xs.length xs ∧ Keeps (fun i => i = rb ∨ w.heap.size ≤ i) w w' := by
  have hrb : rb < w.heap.size := by obtain ⟨p, h⟩ := hrd; exact lt_of_heap h
  have hw : wrap64 (rows * cols) = (xs.length : Int) := by
    have m := mul_small (a := rows) (b := cols) (by omega) (by omega) (by omega) (by omega)
    rw [wrap_small (by omega) (by omega), hx]
  have hn : 1 ≤ xs.length ∧ xs.length ≤ 4096 := by
    have m := mul_small (a := rows) (b := cols) (by omega) (by omega) (by omega) (by omega)
    omega
  have hmk : ∀ W : World, (Instr.makeSlice 70 (.int .i64 xs.length) (.int .i64 xs.length)).run Tryd.prog W = .ok (.slice (some ⟨W.heap.size, 0, none⟩) xs.length xs.length) (W.alloc (.cells (part xs 0) 73)) := fun W => by
    rw [part_zero]
    exact run_make_row' (P := Tryd.prog) 70 73 (.int .i16 0) 2 Tryd.underlying70 (by kernel_rfl) rfl .i64 .i64 xs.length (by omega) (by omega) W
  -- the world behind the two variables
  have k0 : Keeps (fun i => i = rb ∨ w.heap.size ≤ i) w ((w.alloc (.cells Zct tCT)).alloc (.cells Zct tCT)) := Keeps.of_below (Go.Joins.below_alloc2 w _ _)
  have g0 : ((w.alloc (.cells Zct tCT)).alloc (.cells Zct tCT)).heap[w.heap.size]? = some (.cells Zct tCT (0, 0)) := blk_alloc (heap_alloc_new w _) _
  have g1 : ((w.alloc (.cells Zct tCT)).alloc (.cells Zct tCT)).heap[w.heap.size + 1]? = some (.cells Zct tCT (0, 0)) := by
    have := heap_alloc_new (w.alloc (.cells Zct tCT)) (.cells Zct tCT)
    rwa [size_alloc] at this
  have hrd0 : Rdr rb ad (16 + 2 * xs.length) cS 0 ((w.alloc (.cells Zct tCT)).alloc (.cells Zct tCT)) := by
    obtain ⟨p, h⟩ := hrd
    exact ⟨p, blk_alloc (blk_alloc h _) _⟩
  have s0 := hsrc.keeps k0 (by omega)
  have HX := Lib.hid hx
  have H16 := Lib.hid h16
  have K0 := Lib.hid k0
  have G0 := Lib.hid g0
  have G1 := Lib.hid g1
  have RD0 := Lib.hid hrd0
  have S0 := Lib.hid s0
  clear hx h16 k0 g0 g1 hrd0 s0 hrd hsrc
  go_enter Tryd.func41, Tryd.ntmps41
  go_wp2_with fail
  refine (read_i64 rb _ cS 0 (w.heap.size + 1) 0 tCT ad _ 0 rows _ (by omega) RD0.out G1.out rfl (by decide) (by omega) hcS hcM had (S0.out.part 0 _ ⟨[], leB cols 8 ++ le2s xs, by simp, rfl⟩)).mono ?_
  rintro e w1 ⟨rfl, hr1, hg1, hk1⟩
  have HR1 := Lib.hid hr1
  have HG1 := Lib.hid (show w1.heap[w.heap.size + 1]? = some (.cells #[.int .i64 rows, .int .i64 0, .slice none 0 0] tCT (0, 0)) from hg1)
  have HT1 := Lib.hid ((hk1.block _ (lt_of_heap G0.out) (by omega)).trans G0.out)
  have HS1 := Lib.hid (S0.out.keeps (hk1.mono (T := fun i => i = rb ∨ w.heap.size ≤ i) (fun i _ h => h.imp id (by omega))) (by omega))
  have HK1 := Lib.hid (K0.out.trans (hk1.mono (fun i _ h => h.imp id (by omega))))
  clear hr1 hg1 hk1 RD0 G0 G1 S0 K0
  go_wp2_with fail
  refine (read_i64 rb _ cS 8 (w.heap.size + 1) 1 tCT ad _ 0 cols _ (by omega) HR1.out HG1.out rfl (by decide) (by omega) hcS hcM had (HS1.out.part 8 _ ⟨leB rows 8, le2s xs, rfl, by rw [leB_length]⟩)).mono ?_
  rintro e w2 ⟨rfl, hr2, hg2, hk2⟩
  have HR2 := Lib.hid (show Rdr rb ad (16 + 2 * xs.length) cS 16 w2 from hr2)
  have hg2' : w2.heap[w.heap.size + 1]? = some (.cells #[.int .i64 rows, .int .i64 cols, .slice none 0 0] tCT (0, 0)) := hg2
  have HT2 := Lib.hid ((hk2.block _ (lt_of_heap HT1.out) (by omega)).trans HT1.out)
  have HS2 := Lib.hid (HS1.out.keeps (hk2.mono (T := fun i => i = rb ∨ w.heap.size ≤ i) (fun i _ h => h.imp id (by omega))) (by omega))
  have HK2 := Lib.hid (HK1.out.trans (hk2.mono (fun i _ h => h.imp id (by omega))))
  have hsz2 : w.heap.size + 2 ≤ w2.heap.size := by
    have := lt_of_heap hg2'
    omega
  -- the row is made
  have c0 : w2.cell? ⟨w.heap.size + 1, 0, none⟩ = some (.int .i64 rows) := cell_block hg2' 0
  have c1 : w2.cell? ⟨w.heap.size + 1, 1, none⟩ = some (.int .i64 cols) := cell_block hg2' 1
  have c2 : (w2.alloc (.cells (part xs 0) 73)).cell? ⟨w.heap.size + 1, 2, none⟩ = some (.slice none 0 0) := cell_block (blk_alloc hg2' _) 2
  have f2 : (w2.alloc (.cells (part xs 0) 73)).frozen? ⟨w.heap.size + 1, 2, none⟩ = false := frozen_block (blk_alloc hg2' _) 2
  have HG2 := Lib.hid hg2'
  have hrlt2 : rb < w2.heap.size := by omega
  clear hr2 hg2 hg2' hk2 HR1 HG1 HT1 HS1 HK1
  go_wp2_with fail
  rw [hw]
  generalize hwq : (w2.alloc (.cells (part xs 0) 73)).setCell ⟨w.heap.size + 1, 2, none⟩ (.slice (some ⟨w2.heap.size, 0, none⟩) xs.length xs.length) = w3
  have n1 : w2.heap.size ≠ w.heap.size + 1 := by omega
  have a1 : Keeps (fun i => i = rb ∨ w.heap.size ≤ i) w2 w3 := hwq ▸ (Keeps.of_below (below_alloc (Below.refl _ _) _)).setCell (.inr (Nat.le_succ _)) _
  have a2 : w3.heap[w.heap.size + 1]? = some (.cells #[.int .i64 rows, .int .i64 cols, .slice (some ⟨w2.heap.size, 0, none⟩) xs.length xs.length] tCT (0, 0)) := hwq ▸ Lib.heap_setCell_same (blk_alloc HG2.out _) _
  have a3 : w3.heap[w2.heap.size]? = some (.cells (part xs 0) 73 (0, 0)) := hwq ▸ (Below.heap_setCell _ _ _ _ n1).trans (heap_alloc_new _ _)
  have a4 : Rdr rb ad (16 + 2 * xs.length) cS 16 w3 := by
    obtain ⟨p, h⟩ := HR2.out
    exact ⟨p, hwq ▸ (Below.heap_setCell _ _ _ _ (by show rb ≠ w.heap.size + 1; omega)).trans (blk_alloc h _)⟩
  have a5 : w3.heap[w.heap.size]? = some (.cells Zct tCT (0, 0)) := hwq ▸ (Below.heap_setCell _ _ _ _ (by show w.heap.size ≠ w.heap.size + 1; omega)).trans (blk_alloc HT2.out _)
  have A1 := Lib.hid (HK2.out.trans a1)
  have A2 := Lib.hid a2
  have A3 := Lib.hid a3
  have A4 := Lib.hid a4
  have A5 := Lib.hid a5
  have A6 := Lib.hid (HS2.out.keeps a1 (by omega))
  clear hwq c0 c1 c2 f2 a1 a2 a3 a4 a5 HR2 HT2 HS2 HK2 HG2
  go_loopw [33] (fun i wr => ∃ k : Nat, k ≤ xs.length ∧ i = .int .i64 k ∧ Hid (Rdr rb ad (16 + 2 * xs.length) cS (16 + 2 * k) wr) ∧ Hid (wr.heap[w2.heap.size]? = some (.cells (part xs k) 73 (0, 0))) ∧ Hid (wr.heap[w.heap.size + 1]? = some (.cells #[.int .i64 rows, .int .i64 cols, .slice (some ⟨w2.heap.size, 0, none⟩) xs.length xs.length] tCT (0, 0))) ∧ Hid (wr.heap[w.heap.size]? = some (.cells Zct tCT (0, 0))) ∧ Hid (Src wr ad (leB rows 8 ++ leB cols 8 ++ le2s xs)) ∧ Hid (Keeps (fun i => i = rb ∨ w.heap.size ≤ i) w wr)) (fun i _ => xs.length - (intOf i).toNat)
  case atStart => exact ⟨0, Nat.zero_le _, rfl, A4, A3, A2, A5, A6, A1⟩
  case round =>
    obtain ⟨k, hk, rfl, hR, hV, hG, hT, hS, hK⟩ := hrel
    have d0 : wr.cell? ⟨w.heap.size + 1, 0, none⟩ = some (.int .i64 rows) := cell_block hG.out 0
    have d1 : wr.cell? ⟨w.heap.size + 1, 1, none⟩ = some (.int .i64 cols) := cell_block hG.out 1
    have d2 : wr.cell? ⟨w.heap.size + 1, 2, none⟩ = some (.slice (some ⟨w2.heap.size, 0, none⟩) xs.length xs.length) := cell_block hG.out 2
    by_cases hlt : k < xs.length
    · have h16k := H16.out _ (List.getElem_mem hlt)
      go_wp2_with fail
      refine (read_i16 rb _ cS (16 + 2 * k) w2.heap.size k 73 ad _ 0 xs[k] _ h16k hR.out hV.out (part_get xs k hlt) (by decide) (by omega) hcS hcM had (hS.out.part _ _ (by
        obtain ⟨p, q, h1, h2⟩ := ct_at0 (leB rows 8) (leB cols 8) xs k hlt
        exact ⟨p, q, h1, by rw [h2, leB_length, leB_length]⟩))).mono ?_
      rintro e w4 ⟨rfl, hr4, hg4, hk4⟩
      rw [part_set xs k hlt] at hg4
      have B1 := Lib.hid (show Rdr rb ad (16 + 2 * xs.length) cS (16 + 2 * (k + 1)) w4 from hr4)
      have B2 := Lib.hid hg4
      have B3 := Lib.hid ((hk4.block _ (lt_of_heap hG.out) (by omega)).trans hG.out)
      have B4 := Lib.hid ((hk4.block _ (lt_of_heap hT.out) (by omega)).trans hT.out)
      have k4 := hk4.mono (T := fun i => i = rb ∨ w.heap.size ≤ i) (fun i _ h => h.imp id (by omega))
      have B5 := Lib.hid (hS.out.keeps k4 (by omega))
      have B6 := Lib.hid (hK.out.trans k4)
      clear hr4 hg4 hk4 k4 d0 d1 d2
      go_wp2
      exact ⟨⟨k + 1, by omega, by go_num, B1, B2, B3, B4, B5, B6⟩, by simp [intOf]; omega⟩
    · obtain rfl : k = xs.length := by omega
      have e0 : wr.cell? ⟨w.heap.size, 0, none⟩ = some (.int .i64 0) := cell_block hT.out 0
      have e1 : wr.cell? ⟨w.heap.size, 1, none⟩ = some (.int .i64 0) := cell_block hT.out 1
      have e2 : wr.cell? ⟨w.heap.size, 2, none⟩ = some (.slice none 0 0) := cell_block hT.out 2
      have f0 := frozen_block hT.out 0
      have f1 := frozen_block hT.out 1
      have f2 := frozen_block hT.out 2
      go_wp2
      have t3 := Lib.heap_setCell_same (i := 2) (Lib.heap_setCell_same (i := 1) (Lib.heap_setCell_same (i := 0) hT.out (.int .i64 rows)) (.int .i64 cols)) (.slice (some ⟨w2.heap.size, 0, none⟩) xs.length xs.length)
      refine bodyPost_ret (results_ct rfl _ _ w.heap.size tCT #[.int .i64 rows, .int .i64 cols, .slice (some ⟨w2.heap.size, 0, none⟩) xs.length xs.length] (0, 0) _ rfl t3 Tryd.underlying72 rfl (by kernel_rfl)) rfl ?_
      refine ⟨_, rfl, ?_, ?_⟩
      · have v3 : wr.heap[w2.heap.size]? = _ := hV.out
        rw [part_all] at v3
        refine C_of_block (d := Kd.int .i16) (cs := nums .i16 xs) (e := 73) (fr := (0, 0)) ?_ (reps_ints _ _ xs) (by omega)
        rw [Below.heap_setCell _ _ _ _ (by show w2.heap.size ≠ w.heap.size; omega), Below.heap_setCell _ _ _ _ (by show w2.heap.size ≠ w.heap.size; omega), Below.heap_setCell _ _ _ _ (by show w2.heap.size ≠ w.heap.size; omega)]
        exact v3
      · exact ((hK.out.setCell (.inr (Nat.le_refl _)) _).setCell (.inr (Nat.le_refl _)) _).setCell (.inr (Nat.le_refl _)) _
end Go.Proofs.YtaniafohcaiedaaDoor.Z
