/-
  The walks of impl.MorphRead, laws.weighs and laws.FnMorphBack.
-/
import Derived.Test.YtaniafohcaiedaaDoorMr
set_option linter.unusedVariables false
set_option linter.unusedSimpArgs false
namespace Go.Proofs.YtaniafohcaiedaaDoor.Z
open Go.RowKit Go.Proofs.YtaniafohcaiedaaDoor.K Go.Proofs.YtaniafohcaiedaaDoorW.PrintWords

theorem wrap_i16 {a : Int} (h : R16 a) : wrap64 a = a := by have := h.1; have := h.2; unfold wrap64; omega
theorem part_all3 (xs : List T3) (k : Nat) (hk : k < xs.length) : (part (fl xs) (xs.length * 3))[k * 3]? = some (.int .i16 xs[k].1) ∧ (part (fl xs) (xs.length * 3))[k * 3 + 1]? = some (.int .i16 xs[k].2.1) ∧ (part (fl xs) (xs.length * 3))[k * 3 + 2]? = some (.int .i16 xs[k].2.2) := by
  have hl : xs.length * 3 = (fl xs).length := by rw [fl_length]; omega
  have h := fl_at xs k hk
  rw [hl, part_all]
  refine ⟨?_, ?_, ?_⟩
  · simp [nums, h.1]
  · simp [nums, h.2.1]
  · simp [nums, h.2.2]

set_option maxHeartbeats 2000000 in
set_option maxRecDepth 5000 in
theorem mread_any (g cap : Nat) (ys : List T3) (w : World) (h16 : ∀ y ∈ ys, T16 y) (hn : ys.length ≤ 2147483647) (hg : g < w.heap.size) (hcap : 8 + 6 * ys.length ≤ cap) (hcm : cap ≤ maxLen) (hs : Src w ⟨g, 0, none⟩ (leB ys.length 8 ++ le3s ys)) :
    Calls Tryd.prog 20 #[.slice (some ⟨g, 0, none⟩) (8 + 6 * ys.length) cap] w fun e w' => ∃ v, e = .returned (.tuple #[v, .int .i64 0]) ∧ (kT .i64).R 39 w' w.heap.size (fun _ => True) v ys ∧ Below w.heap.size w w' := by
  have H16 := Lib.hid h16
  have HS := Lib.hid hs
  clear h16 hs
  go_enter Tryd.func20, Tryd.ntmps20
  go_wp2_with fail
  refine (sized_any ys.length (8 + 6 * ys.length) cap ⟨g, 0, none⟩ (le3s ys) w HS.out (by rw [le3s_length]) (by omega) (by omega)).mono ?_
  rintro e w1 ⟨rfl, rfl⟩
  go_wp2_with fail
  refine (newReader_any (some ⟨g, 0, none⟩) (8 + 6 * ys.length) cap w1).mono ?_
  rintro e w2 ⟨rfl, rfl⟩
  have k2 : Keeps (fun i => w1.heap.size ≤ i) w1 (w1.alloc (.cells #[.slice (some ⟨g, 0, none⟩) (8 + 6 * ys.length) cap, .int .i64 0, .int .i64 (-1)] tRd)) := Keeps.of_below (below_alloc (Below.refl _ _) _)
  have hrd2 : Rdr w1.heap.size ⟨g, 0, none⟩ (8 + 6 * ys.length) cap 0 (w1.alloc (.cells #[.slice (some ⟨g, 0, none⟩) (8 + 6 * ys.length) cap, .int .i64 0, .int .i64 (-1)] tRd)) := ⟨-1, heap_alloc_new _ _⟩
  have HS2 := Lib.hid (HS.out.keeps k2 (by show ¬ w1.heap.size ≤ g; omega))
  have HK2 := Lib.hid k2
  have HRD2 := Lib.hid hrd2
  clear k2 hrd2
  go_wp2_with fail
  refine (m_read ys w1.heap.size cap ⟨g, 0, none⟩ _ H16.out hn HRD2.out hcap hcm (by show g ≠ w1.heap.size; omega) (by simp; omega) HS2.out).mono ?_
  rintro e w3 ⟨g3, rfl, hg3, hlt3, hk3⟩
  have hl3 : Below w1.heap.size w1 w3 := (HK2.out.trans (hk3.mono (fun i _ h => by
    rcases h with rfl | h
    · exact Nat.le_refl _
    · simp at h; omega))).below (fun i _ h => h) (Nat.le_refl _)
  have HG3 := Lib.hid hg3
  have HL3 := Lib.hid hl3
  have hg3l := lt_of_heap hg3
  clear hg3 hk3 hl3
  go_wp2
  go_loopw [23, 6] (fun i v wr => ∃ k : Nat, k ≤ ys.length ∧ i = .int .i64 k ∧ Hid ((kT .i64).R 39 wr w3.heap.size (fun _ => True) v (ys.take k)) ∧ Hid (Below w3.heap.size w3 wr)) (fun i _ _ => ys.length - (intOf i).toNat)
  case atStart => exact ⟨0, Nat.zero_le _, rfl, Lib.hid (Kd.R_nil _ _ _ _ _), Lib.hid (Below.refl _ _)⟩
  case round =>
    obtain ⟨k, hk, rfl, hR, hbel⟩ := hrel
    by_cases hlt : k < ys.length
    · have hx := H16.out _ (List.getElem_mem hlt)
      have hgr : wr.heap[g3]? = _ := (hbel.out.block _ hg3l).trans HG3.out
      obtain ⟨q0, q1, q2⟩ := part_all3 ys k hlt
      have c0 : wr.cell? ⟨g3, k * 3, none⟩ = some (.int .i16 ys[k].1) := (cell_block hgr _).trans q0
      have c1 : wr.cell? ⟨g3, k * 3 + 1, none⟩ = some (.int .i16 ys[k].2.1) := (cell_block hgr _).trans q1
      have c2 : wr.cell? ⟨g3, k * 3 + 2, none⟩ = some (.int .i16 ys[k].2.2) := (cell_block hgr _).trans q2
      have e0 := wrap_i16 hx.1
      have e1 := wrap_i16 hx.2.1
      have e2 := wrap_i16 hx.2.2
      have hszr := hbel.out.size
      clear hgr q0 q1 q2
      go_wp2_with (at_builtin; refine kapp (w0 := w3) (kT .i64) w3.heap.size rfl _ _ 29 39 (.agg #[.int .i64 0, .int .i64 0, .int .i64 0]) 24 rfl Tryd.underlying29 (by kernel_rfl) rfl (by decide) (by decide) _ (ys.take k) ys[k] (enc3 .i64 ys[k]) (fun _ => True) (fun _ => False) (wr.heap.size + 1) rfl rfl ?hg rfl (fun _ h => h.elim) (fun _ _ => trivial) (Kd.R_alloc (Kd.R_alloc hR.out _) _) ((hbel.out.alloc hszr _).alloc (by simp; omega) _) (by simp; omega) ?hl ?_)
      case hg =>
        intro j u hj
        have := heap_alloc_new (wr.alloc (.cells #[.int .i16 ys[k].1, .int .i16 ys[k].2.1, .int .i16 ys[k].2.2] 99)) (.cells #[.int .i64 ys[k].1, .int .i64 ys[k].2.1, .int .i64 ys[k].2.2] 39)
        rw [size_alloc] at this
        rw [cell_of_heap this]
        simpa [enc3] using hj
      case hl => simp; omega
      intro v1 w4 hR4 hB4 hg4 hat4
      have HR4 := Lib.hid hR4
      have HB4 := Lib.hid hB4
      clear hg4 hat4 hR4 hB4 c0 c1 c2
      go_wp2
      refine ⟨⟨k + 1, by omega, by go_num, Lib.hid ?_, HB4⟩, by simp [intOf]; omega⟩
      have := HR4.out
      rw [List.take_succ_eq_append_getElem hlt]
      simpa using this
    · obtain rfl : k = ys.length := by omega
      have h := hR.out
      rw [List.take_length] at h
      have H := Lib.hid h
      clear h
      go_wp2
      go_ret2
      exact ⟨_, rfl, Kd.R_lower H.out HL3.out.size, HL3.out.trans (hbel.out.mono HL3.out.size)⟩

theorem m16_id {xs : List T3} (h : ∀ x ∈ xs, T16 x) : M16 xs = xs := by
  unfold M16
  conv => rhs; rw [← List.map_id xs]
  refine List.map_congr_left fun x hx => ?_
  obtain ⟨h1, h2, h3⟩ := h x hx
  have e : ∀ a : Int, R16 a → IntKind.i16.wrap a = a := fun a ha => by have := ha.1; have := ha.2; simp [IntKind.wrap, IntKind.bits, IntKind.signed]; omega
  simp [w16, e _ h1, e _ h2, e _ h3]

theorem src_of {w : World} {g n : Nat} {cur : Array Value} {bs : List Int} (hg : w.heap[g]? = some (.cells cur U8 (0, 0))) (ht : cur.toList.take n = nums .u8 bs) : Src w ⟨g, 0, none⟩ bs := by
  intro j x hx
  rw [add_plain, cell_block hg]
  rw [← ht] at hx
  have hj : j < n := by
    rcases Nat.lt_or_ge j n with h | h
    · exact h
    · rw [List.getElem?_take, if_neg (by omega)] at hx; cases hx
  rw [List.getElem?_take, if_pos hj] at hx
  simpa using hx

set_option maxHeartbeats 1000000 in
set_option maxRecDepth 5000 in
theorem weighs_any (w : World) : Calls Tryd.prog 15 #[] w fun e w' => e = .returned (.bool true) ∧ Below w.heap.size w w' := by
  have h16 : ∀ x ∈ [((1, 2, -3) : T3)], T16 x := by intro x hx; simp at hx; subst hx; exact ⟨⟨by decide, by decide⟩, ⟨by decide, by decide⟩, by decide, by decide⟩
  have hC : ∀ W : World, (kT .i64).C (W.alloc (.cells #[.int .i64 1, .int .i64 2, .int .i64 (-3)] 39)) (some ⟨W.heap.size, 0, none⟩) [((1, 2, -3) : T3)].length [((1, 2, -3) : T3)] := fun W => C_of_block (d := kT .i64) (cs := [.int .i64 1, .int .i64 2, .int .i64 (-3)]) (heap_alloc_new _ _) (reps3 _ _ [((1, 2, -3) : T3)]) (by simp)
  have HC := Lib.hid hC
  clear hC
  go_enter Tryd.func15, Tryd.ntmps15
  go_wp2_with fail
  refine (m_bytes _ 1 [((1, 2, -3) : T3)] _ (HC.out w) (by simp)).mono ?_
  rintro e w1 ⟨g, cap, cur, rfl, hgb, hg1, hcap, hcm, ht, hl1⟩
  rw [m16_id h16] at ht
  have HS1 := Lib.hid (src_of hg1 ht)
  have hg1l := lt_of_heap hg1
  have HL1 := Lib.hid ((below_alloc (Below.refl w.heap.size w) (.cells #[.int .i64 1, .int .i64 2, .int .i64 (-3)] 39)).trans (hl1.mono (by simp)))
  clear hg1 ht hl1
  go_wp2_with fail
  refine (mread_any g cap [((1, 2, -3) : T3)] w1 h16 (by simp) hg1l hcap hcm HS1.out).mono ?_
  rintro e w2 ⟨v, rfl, hR2, hl2⟩
  obtain ⟨A2, c2, rfl, _, hC2⟩ := Kd.R_reads hR2
  have HC2 := Lib.hid (Kd.C_below hC2 (below_alloc (Below.refl _ _) (.cells #[.int .i64 1, .int .i64 2, .int .i64 (-3)] 39)))
  have HL2 := Lib.hid (HL1.out.trans (hl2.mono HL1.out.size))
  clear hR2 hC2 hl2
  go_wp2_with fail
  refine (same3_eq A2 _ c2 1 [((1, 2, -3) : T3)] _ HC2.out (HC.out w2)).mono ?_
  rintro e w3 ⟨rfl, hl3⟩
  have HL3 := Lib.hid ((HL2.out.alloc HL2.out.size (.cells #[.int .i64 1, .int .i64 2, .int .i64 (-3)] 39)).trans (hl3.mono (by simp; have := HL2.out.size; omega)))
  clear hl3
  go_wp2
  go_ret
  exact ⟨rfl, HL3.out⟩

set_option maxHeartbeats 1000000 in
set_option maxRecDepth 5000 in
theorem mback_walk (A : Option Addr) (c : Nat) (xs : List T3) (w : World) (hC : (kT .i64).C w A xs.length xs) :
    Calls Tryd.prog 5 #[.slice A xs.length c] w fun e w' => e = .returned (.bool true) ∧ Below w.heap.size w w' := by
  have HC := Lib.hid hC
  clear hC
  go_enter Tryd.func5, Tryd.ntmps5
  by_cases hsz : 2147483647 < xs.length
  · go_wp2
    go_ret
    exact ⟨rfl, Below.refl _ _⟩
  go_wp2_with fail
  refine (small16_any A c xs w HC.out).mono ?_
  rintro e w1 ⟨b, rfl, hb, hl1⟩
  have HB := Lib.hid hb
  have HL1 := Lib.hid hl1
  clear hb hl1
  cases b
  · go_wp2_with fail
    refine (weighs_any w1).mono ?_
    rintro e w2 ⟨rfl, hl⟩
    have HL := Lib.hid (HL1.out.trans (hl.mono HL1.out.size))
    clear hl
    go_wp2
    go_ret
    exact ⟨rfl, HL.out⟩
  obtain ⟨h16, h200⟩ := HB.out rfl
  have H16 := Lib.hid h16
  clear HB h16
  go_wp2_with fail
  refine (m_bytes A c xs _ (Kd.C_below HC.out HL1.out) (by omega)).mono ?_
  rintro e w2 ⟨g, cap, cur, rfl, hgb, hg1, hcap, hcm, ht, hl2⟩
  rw [m16_id H16.out] at ht
  have HS1 := Lib.hid (src_of hg1 ht)
  have hg1l := lt_of_heap hg1
  have HL2 := Lib.hid (HL1.out.trans (hl2.mono HL1.out.size))
  clear hg1 ht hl2
  go_wp2_with fail
  refine (mread_any g cap xs w2 H16.out (by omega) hg1l hcap hcm HS1.out).mono ?_
  rintro e w3 ⟨v, rfl, hR3, hl3⟩
  obtain ⟨A3, c3, rfl, _, hC3⟩ := Kd.R_reads hR3
  have HC3 := Lib.hid hC3
  have HL3 := Lib.hid (HL2.out.trans (hl3.mono HL2.out.size))
  clear hR3 hC3 hl3
  go_wp2_with fail
  refine (same3_eq A3 A c3 c xs w3 HC3.out (Kd.C_below HC.out HL3.out)).mono ?_
  rintro e w4 ⟨rfl, hl4⟩
  have HL4 := Lib.hid (HL3.out.trans (hl4.mono HL3.out.size))
  clear hl4
  go_wp2_with fail
  refine (weighs_any w4).mono ?_
  rintro e w5 ⟨rfl, hl5⟩
  have HL5 := Lib.hid (HL4.out.trans (hl5.mono HL4.out.size))
  clear hl5
  go_wp2
  go_ret
  exact ⟨rfl, HL5.out⟩
end Go.Proofs.YtaniafohcaiedaaDoor.Z
