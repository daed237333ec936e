/-
  The walks of sized, ReadMorphs and impl.MorphRead: what was written is read.
-/
import Derived.Test.YtaniafohcaiedaaDoorMw
import Derived.Test.YtaniafohcaiedaaDoorSame3
set_option linter.unusedVariables false
set_option linter.unusedSimpArgs false
namespace Go.Proofs.YtaniafohcaiedaaDoor.Z
open Go.RowKit Go.Proofs.YtaniafohcaiedaaDoor.K Go.Proofs.YtaniafohcaiedaaDoorW.PrintWords

def fl (xs : List T3) : List Int := xs.flatMap fun x => [x.1, x.2.1, x.2.2]
theorem fl_length (xs : List T3) : (fl xs).length = 3 * xs.length := by
  induction xs with
  | nil => rfl
  | cons x xs ih => rw [fl, List.flatMap_cons, List.length_append, ← fl, ih, List.length_cons]; simp; omega
theorem fl_append (a b : List T3) : fl (a ++ b) = fl a ++ fl b := List.flatMap_append
theorem fl_split (xs : List T3) (k : Nat) (hk : k < xs.length) : fl xs = fl (xs.take k) ++ [xs[k].1, xs[k].2.1, xs[k].2.2] ++ fl (xs.drop (k + 1)) := by
  have h1 : xs.take k ++ [xs[k]] ++ xs.drop (k + 1) = xs := by rw [← List.take_succ_eq_append_getElem hk, List.take_append_drop]
  have h2 : fl xs = fl (xs.take k ++ [xs[k]] ++ xs.drop (k + 1)) := congrArg fl h1.symm
  rw [h2, fl_append, fl_append]
  rfl
theorem fl_at (xs : List T3) (k : Nat) (hk : k < xs.length) : (fl xs)[k * 3]? = some xs[k].1 ∧ (fl xs)[k * 3 + 1]? = some xs[k].2.1 ∧ (fl xs)[k * 3 + 2]? = some xs[k].2.2 := by
  have hl : (fl (xs.take k)).length = k * 3 := by rw [fl_length, List.length_take, Nat.min_eq_left (by omega)]; omega
  rw [fl_split xs k hk, List.append_assoc]
  refine ⟨?_, ?_, ?_⟩
  · rw [List.getElem?_append_right (by omega), hl, Nat.sub_self]; rfl
  · rw [List.getElem?_append_right (by omega), hl, show k * 3 + 1 - k * 3 = 1 by omega]; rfl
  · rw [List.getElem?_append_right (by omega), hl, show k * 3 + 2 - k * 3 = 2 by omega]; rfl
theorem part_zero3 (xs : List T3) : part (fl xs) 0 = madeCells #[.int .i16 0, .int .i16 0, .int .i16 0] (xs.length * 3) := by
  apply Array.ext'
  simp [part, nums, madeCells, Array.flatten, List.map_replicate, fl_length]
  rw [eq_comm, List.eq_replicate_iff]
  refine ⟨by simp; omega, fun x hx => ?_⟩
  obtain ⟨i, _, rfl⟩ := List.mem_map.1 hx
  have : i % 3 = 0 ∨ i % 3 = 1 ∨ i % 3 = 2 := by omega
  rcases this with h | h | h <;> simp [h]
theorem part_step (xs : List Int) (j : Nat) (v : Int) (h : xs[j]? = some v) : (part xs j)[j]? = some (.int .i16 0) ∧ (part xs j).setIfInBounds j (.int .i16 v) = part xs (j + 1) := by
  obtain ⟨hj, rfl⟩ := List.getElem?_eq_some_iff.1 h
  exact ⟨part_get xs j hj, part_set xs j hj⟩
theorem m_at (a : List Int) (xs : List T3) (k : Nat) (hk : k < xs.length) : ∃ p q, a ++ le3s xs = p ++ leB xs[k].1 2 ++ (leB xs[k].2.1 2 ++ leB xs[k].2.2 2 ++ q) ∧ p.length = a.length + 6 * k := by
  refine ⟨a ++ le3s (xs.take k), le3s (xs.drop (k + 1)), ?_, ?_⟩
  · have : xs = xs.take (k + 1) ++ xs.drop (k + 1) := (List.take_append_drop _ _).symm
    conv => lhs; rw [this]
    rw [show le3s (xs.take (k + 1) ++ xs.drop (k + 1)) = le3s (xs.take (k + 1)) ++ le3s (xs.drop (k + 1)) from List.flatMap_append, le3s_take _ _ hk]
    simp [le3]
  · simp [le3s_length]; omega

set_option maxHeartbeats 1000000 in
set_option maxRecDepth 5000 in
theorem sized_any (n L c : Nat) (ad : Addr) (bs : List Int) (w : World) (hs : Src w ad (leB n 8 ++ bs)) (hL : L = 8 + bs.length) (hLm : L ≤ 9223372036854775807) (hn : n ≤ L) :
    Calls Tryd.prog 49 #[.slice (some ad) L c] w fun e w' => e = .returned (.bool true) ∧ w' = w := by
  have HS := Lib.hid (hs.part 0 (leB n 8) ⟨[], bs, rfl, rfl⟩)
  have hU : IntKind.u64.wrap (n : Int) = n := by rw [IntKind.wrap_u64]; omega
  clear hs
  go_enter Tryd.func49, Tryd.ntmps49
  go_wp2
  go_loopw [8, 3] (fun i u wr => ∃ k : Nat, k ≤ 8 ∧ i = .int .i64 k ∧ u = .int .u64 ((n : Int) % 2 ^ (8 * k)) ∧ wr = w) (fun i _ _ => 8 - (intOf i).toNat)
  case atStart => exact ⟨0, Nat.zero_le _, rfl, by simp, rfl⟩
  case round =>
    obtain ⟨k, hk, rfl, rfl, rfl⟩ := hrel
    by_cases hlt : k < 8
    · have hc : wr.cell? (ad.add k) = some (.int .u8 ((n : Int) / 2 ^ (8 * k) % 256)) := by
        have := HS.out k _ (leB_get n 8 k hlt)
        rw [hU, add_add', Nat.zero_add] at this
        exact this
      have hor := or_step n (by omega) (by omega) k (by omega)
      go_wp2
      exact ⟨⟨k + 1, by omega, by go_num, rfl, trivial⟩, by simp [intOf]; omega⟩
    · obtain rfl : k = 8 := by omega
      have h8 : (n : Int) % 18446744073709551616 = n := by omega
      go_wp2
      go_ret
      refine ⟨?_, rfl⟩
      show Ending.returned (.bool (decide _)) = _
      rw [decide_eq_true (by omega)]

set_option maxHeartbeats 2000000 in
set_option maxRecDepth 5000 in
theorem m_read (ys : List T3) (rb cS : Nat) (ad : Addr) (w : World) (h16 : ∀ y ∈ ys, T16 y) (hn : ys.length ≤ 2147483647)
    (hrd : Rdr rb ad (8 + 6 * ys.length) cS 0 w) (hcS : 8 + 6 * ys.length ≤ cS) (hcM : cS ≤ maxLen) (had : ad.block ≠ rb) (hadl : ad.block < w.heap.size) (hsrc : Src w ad (leB ys.length 8 ++ le3s ys)) :
    Calls Tryd.prog 50 #[.iface tpRd (.pointer (some ⟨rb, 0, none⟩))] w fun e w' =>
      ∃ g, e = .returned (.tuple #[.slice (some ⟨g, 0, none⟩) ys.length ys.length, .nilIface]) ∧ w'.heap[g]? = some (.cells (part (fl ys) (ys.length * 3)) 99 (0, 0)) ∧ w.heap.size ≤ g ∧ Keeps (fun i => i = rb ∨ w.heap.size ≤ i) w w' := by
  have hrb : rb < w.heap.size := by obtain ⟨p, h⟩ := hrd; exact lt_of_heap h
  have hmk : ∀ W : World, (Instr.makeSlice 92 (.int .i64 ys.length) (.int .i64 ys.length)).run Tryd.prog W = .ok (.slice (some ⟨W.heap.size, 0, none⟩) ys.length ys.length) (W.alloc (.cells (part (fl ys) 0) 99)) := fun W => by
    obtain ⟨i, hi, hii⟩ := Option.map_eq_some_iff.1 (show (Tryd.prog.info? 99).map (fun i => (i.zero, i.size, i.bytes)) = some (some (.agg #[.int .i16 0, .int .i16 0, .int .i16 0]), 3, 6) by kernel_rfl)
    simp only [Prod.mk.injEq] at hii
    obtain ⟨hz, hsz, hby⟩ := hii
    have := run_make (P := Tryd.prog) W 92 99 i _ Tryd.underlying92 hi hz .i64 .i64 ys.length ys.length (by omega) (by omega) (by rw [hby]; omega) (by omega)
    rw [this, part_zero3, hsz]
    rfl
  have k0 : Keeps (fun i => i = rb ∨ w.heap.size ≤ i) w (w.alloc (.cells #[.int .i64 0] 2)) := Keeps.of_below (below_alloc (Below.refl _ _) _)
  have g1 : (w.alloc (.cells #[.int .i64 0] 2)).heap[w.heap.size]? = some (.cells #[.int .i64 0] 2 (0, 0)) := heap_alloc_new w _
  have hrd0 : Rdr rb ad (8 + 6 * ys.length) cS 0 (w.alloc (.cells #[.int .i64 0] 2)) := by
    obtain ⟨p, h⟩ := hrd
    exact ⟨p, blk_alloc h _⟩
  have s0 := hsrc.keeps k0 (by omega)
  have H16 := Lib.hid h16
  have K0 := Lib.hid k0
  have G1 := Lib.hid g1
  have RD0 := Lib.hid hrd0
  have S0 := Lib.hid s0
  clear h16 k0 g1 hrd0 s0 hrd hsrc
  go_enter Tryd.func50, Tryd.ntmps50
  go_wp2_with fail
  refine (read_i64 rb _ cS 0 w.heap.size 0 2 ad _ 0 ys.length _ (by omega) RD0.out G1.out rfl (by decide) (by omega) hcS hcM had (S0.out.part 0 _ ⟨[], le3s ys, rfl, rfl⟩)).mono ?_
  rintro e w1 ⟨rfl, hr1, hg1, hk1⟩
  have c0 : w1.cell? ⟨w.heap.size, 0, none⟩ = some (.int .i64 ys.length) := cell_block hg1 0
  have a1 := hk1.mono (T := fun i => i = rb ∨ w.heap.size ≤ i) (fun i _ h => h.imp id (by omega))
  have hsz1 := lt_of_heap hg1
  have HR1 := Lib.hid (show Rdr rb ad (8 + 6 * ys.length) cS 8 w1 from hr1)
  have HS1 := Lib.hid (S0.out.keeps a1 (by omega))
  have HK1 := Lib.hid (K0.out.trans a1)
  clear hr1 hg1 hk1 a1 S0 K0 G1 RD0
  go_wp2
  have b1 : Keeps (fun i => i = rb ∨ w.heap.size ≤ i) w1 (w1.alloc (.cells (part (fl ys) 0) 99)) := Keeps.of_below (below_alloc (Below.refl _ _) _)
  have b2 : (w1.alloc (.cells (part (fl ys) 0) 99)).heap[w1.heap.size]? = _ := heap_alloc_new _ _
  have b3 : Rdr rb ad (8 + 6 * ys.length) cS 8 (w1.alloc (.cells (part (fl ys) 0) 99)) := by
    obtain ⟨p, h⟩ := HR1.out
    exact ⟨p, blk_alloc h _⟩
  have A1 := Lib.hid b2
  have A2 := Lib.hid b3
  have A3 := Lib.hid (HS1.out.keeps b1 (by omega))
  have A4 := Lib.hid (HK1.out.trans b1)
  clear b1 b2 b3 HR1 HS1 HK1 c0
  go_loopw [20] (fun i wr => ∃ k : Nat, k ≤ ys.length ∧ i = .int .i64 k ∧ Hid (Rdr rb ad (8 + 6 * ys.length) cS (8 + 6 * k) wr) ∧ Hid (wr.heap[w1.heap.size]? = some (.cells (part (fl ys) (k * 3)) 99 (0, 0))) ∧ Hid (Src wr ad (leB ys.length 8 ++ le3s ys)) ∧ Hid (Keeps (fun i => i = rb ∨ w.heap.size ≤ i) w wr)) (fun i _ => ys.length - (intOf i).toNat)
  case atStart => exact ⟨0, Nat.zero_le _, rfl, A2, A1, A3, A4⟩
  case round =>
    obtain ⟨k, hk, rfl, hR, hV, hS, hK⟩ := hrel
    by_cases hlt : k < ys.length
    · have h16k := H16.out _ (List.getElem_mem hlt)
      have hfl := fl_at ys k hlt
      obtain ⟨p, q, hpq, hpl⟩ := m_at (leB ys.length 8) ys k hlt
      rw [leB_length] at hpl
      have HPQ := Lib.hid hpq
      clear hpq
      go_wp2_with fail
      refine (read_i16 rb _ cS (8 + 6 * k) w1.heap.size (k * 3) 99 ad _ 0 ys[k].1 _ h16k.1 hR.out hV.out (part_step _ _ _ hfl.1).1 (by decide) (by omega) hcS hcM had (hS.out.part _ _ ⟨p, leB ys[k].2.1 2 ++ leB ys[k].2.2 2 ++ q, HPQ.out, by omega⟩)).mono ?_
      rintro e w4 ⟨rfl, hr4, hg4, hk4⟩
      rw [(part_step _ _ _ hfl.1).2] at hg4
      have R4 := Lib.hid (show Rdr rb ad (8 + 6 * ys.length) cS (8 + 6 * k + 2) w4 from hr4)
      have V4 := Lib.hid hg4
      have q4 := hk4.mono (T := fun i => i = rb ∨ w.heap.size ≤ i) (fun i _ h => h.imp id (by omega))
      have S4 := Lib.hid (hS.out.keeps q4 (by omega))
      have K4 := Lib.hid (hK.out.trans q4)
      clear hr4 hg4 hk4 q4
      go_wp2_with fail
      refine (read_i16 rb _ cS (8 + 6 * k + 2) w1.heap.size (k * 3 + 1) 99 ad _ 0 ys[k].2.1 _ h16k.2.1 R4.out V4.out (part_step _ _ _ hfl.2.1).1 (by decide) (by omega) hcS hcM had (S4.out.part _ _ ⟨p ++ leB ys[k].1 2, leB ys[k].2.2 2 ++ q, by rw [HPQ.out]; simp, by rw [List.length_append, leB_length]; omega⟩)).mono ?_
      rintro e w5 ⟨rfl, hr5, hg5, hk5⟩
      rw [(part_step _ _ _ hfl.2.1).2] at hg5
      have R5 := Lib.hid (show Rdr rb ad (8 + 6 * ys.length) cS (8 + 6 * k + 4) w5 from hr5)
      have V5 := Lib.hid hg5
      have q5 := hk5.mono (T := fun i => i = rb ∨ w.heap.size ≤ i) (fun i _ h => h.imp id (by omega))
      have S5 := Lib.hid (S4.out.keeps q5 (by omega))
      have K5 := Lib.hid (K4.out.trans q5)
      clear hr5 hg5 hk5 q5
      go_wp2_with fail
      refine (read_i16 rb _ cS (8 + 6 * k + 4) w1.heap.size (k * 3 + 2) 99 ad _ 0 ys[k].2.2 _ h16k.2.2 R5.out V5.out (part_step _ _ _ hfl.2.2).1 (by decide) (by omega) hcS hcM had (S5.out.part _ _ ⟨p ++ leB ys[k].1 2 ++ leB ys[k].2.1 2, q, by rw [HPQ.out]; simp, by rw [List.length_append, List.length_append, leB_length, leB_length]; omega⟩)).mono ?_
      rintro e w6 ⟨rfl, hr6, hg6, hk6⟩
      rw [(part_step _ _ _ hfl.2.2).2] at hg6
      have R6 := Lib.hid (show Rdr rb ad (8 + 6 * ys.length) cS (8 + 6 * k + 6) w6 from hr6)
      have V6 := Lib.hid hg6
      have q6 := hk6.mono (T := fun i => i = rb ∨ w.heap.size ≤ i) (fun i _ h => h.imp id (by omega))
      have S6 := Lib.hid (S5.out.keeps q6 (by omega))
      have K6 := Lib.hid (K5.out.trans q6)
      clear hr6 hg6 hk6 q6
      go_wp2
      have V7 := V6.out
      rw [show k * 3 + 2 + 1 = (k + 1) * 3 by omega] at V7
      exact ⟨⟨k + 1, by omega, by go_num, Lib.hid (show Rdr rb ad (8 + 6 * ys.length) cS (8 + 6 * (k + 1)) _ from R6.out), Lib.hid V7, S6, K6⟩, by simp [intOf]; omega⟩
    · obtain rfl : k = ys.length := by omega
      go_wp2
      go_ret2
      exact ⟨_, rfl, hV.out, by omega, hK.out⟩
end Go.Proofs.YtaniafohcaiedaaDoor.Z
