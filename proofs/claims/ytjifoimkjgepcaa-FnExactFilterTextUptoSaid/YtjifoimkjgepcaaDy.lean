/-
  The walk of BuildWithIDs, for keys that ascend.
-/
import Derived.Test.YtjifoimkjgepcaaDw
import Derived.Test.YtjifoimkjgepcaaDu
import Derived.Test.YtjifoimkjgepcaaDv
set_option linter.unusedVariables false
set_option linter.unusedSimpArgs false
namespace Go.Proofs.Ytjifoimkjgepcaa.Da
open Go.RowKit Go.ChangeShapes Go.Proofs.Ytjifoimkjgepcaa.K Go.Proofs.YtjifoimkjgepcaaW.PrintWords

/-- A trie in memory: a double array that holds these keys. -/
structure Trie (g : Nat) (A : DA) (ks : Ks) (w : World) : Prop where
  arr : w.heap[g]? = some (.cells (cellsOf A) tEl (0, 0))
  n : A.n ≤ 536870918
  pos : 0 < A.n
  rb : ∀ i, i < A.n → -2147483647 ≤ A.b i ∧ A.b i ≤ 2147483647
  rc : ∀ i, i < A.n → -2147483647 ≤ A.c i ∧ A.c i ≤ 2147483647
  tr : Tr A (fun _ => True) 0 ks
/-- Keys that can be built. -/
structure Keys (keys : List ByteArray) (ids : List Int) : Prop where
  ne : keys ≠ []
  len : keys.length ≤ 4000
  il : ids.length = keys.length
  idr : ∀ x ∈ ids, 0 ≤ x ∧ x ≤ 2147483647
  sz : ∀ s ∈ keys, s.size ≤ 4000
  asc : ∀ i (h : i + 1 < keys.length), ltB keys[i + 1] keys[i] = false
  srt : Srt (ksOf keys ids 0 (List.range keys.length))
  byt : Byt (ksOf keys ids 0 (List.range keys.length))
  full : firstE (ksOf keys ids 0 (List.range keys.length)) = none
  cost : cost (ksOf keys ids 0 (List.range keys.length)) ≤ 4000

theorem Tr.cut {A : DA} {N : Nat → Prop} {m : Nat} (hm : m ≤ A.n) (hc : ∀ i, i < A.n → m ≤ i → A.c i < 0) {p : Nat} {ks : Ks} (h : Tr A N p ks) : Tr (cutA A m) N p ks := by
  induction h with
  | node p ks B hb hB leaf kid sub none0 none1 ih =>
    have lt : ∀ i, i < A.n → A.c i = (p : Int) → i < m := fun i h1 h2 => Nat.lt_of_not_le fun h3 => by have := hc i h1 h3; omega
    refine .node p ks B hb hB (fun id hid => ?_) (fun ch h1 h2 => ?_) ih (fun h0 h => none0 h0 ⟨Nat.lt_of_lt_of_le h.1 hm, h.2⟩) (fun ch h1 h2 h => none1 ch h1 h2 ⟨Nat.lt_of_lt_of_le h.1 hm, h.2⟩)
    · obtain ⟨g1, g2, g3⟩ := leaf id hid
      exact ⟨lt _ g1 g2, g2, g3⟩
    · obtain ⟨g1, g2, g3⟩ := kid ch h1 h2
      exact ⟨lt _ g1 g2, g2, g3⟩

theorem Tr.some_used {A : DA} {N : Nat → Prop} {p : Nat} {ks : Ks} (h : Tr A N p ks) (hne : ks ≠ []) (hby : Byt ks) : ∃ u, u < A.n ∧ 0 ≤ A.c u := by
  cases h with
  | node p ks B hb hB leaf kid sub none0 none1 =>
    cases hf : firstE ks with
    | some id =>
      obtain ⟨g1, g2, _⟩ := leaf id hf
      exact ⟨B, g1, by omega⟩
    | none =>
      cases ks with
      | nil => exact absurd rfl hne
      | cons x r =>
        obtain ⟨s, id⟩ := x
        cases s with
        | nil => cases hf
        | cons a s =>
          obtain ⟨g1, g2, _⟩ := kid a (hby _ (List.mem_cons_self ..) a (by simp)).1 (by simp [tails])
          exact ⟨_, g1, by omega⟩
/-- A row of the numbers from 0 on, while it is filled. -/
def fillA (N k : Nat) : Array Value := Array.ofFn (n := N) fun i => .int .i64 (if i.1 < k then (i.1 : Int) else 0)
theorem fill_zero (N : Nat) : madeCells #[.int .i64 0] N = fillA N 0 := by
  apply Array.ext
  · simp [fillA, size_madeCells]
  · intro j h1 h2
    simp [madeCells, fillA, Nat.mod_one]
theorem fill_at {N k j : Nat} (h : j < N) : (fillA N k)[j]? = some (.int .i64 (if j < k then (j : Int) else 0)) := by
  unfold fillA
  rw [Array.getElem?_ofFn, dif_pos h]
theorem fill_set {N k : Nat} (h : k < N) : (fillA N k).setIfInBounds k (.int .i64 (k : Int)) = fillA N (k + 1) := by
  apply Array.ext
  · simp [fillA]
  · intro j h1 h2
    have h3 : j < N := by simpa [fillA] using h2
    rw [Array.getElem_setIfInBounds (by simpa [fillA] using h3)]
    simp only [fillA, Array.getElem_ofFn]
    by_cases e : k = j
    · subst e; simp
    · rw [if_neg e]
      by_cases e2 : j < k
      · simp [e2, show j < k + 1 by omega]
      · simp [e2, show ¬ j < k + 1 by omega]
theorem ints_at {w : World} {A : Option Addr} {n : Nat} {k : IntKind} {xs : List Int} (h : (Kd.int k).C w A n xs) : ∀ j (hj : j < xs.length), ∃ ad, A = some ad ∧ w.cell? (ad.add j) = some (.int k xs[j]) := by
  intro j hj
  obtain ⟨ad, hA, hc⟩ := h.2.2 (by have := h.1; omega)
  obtain ⟨c, hl, hk, hcell⟩ := hc j xs[j] (List.getElem?_eq_getElem hj)
  have hk' : c = [.int k xs[j]] := hk
  subst hk'
  have := hcell 0 _ rfl
  have e : (Kd.int k).sz = 1 := rfl
  rw [e, Nat.mul_one, Nat.add_zero] at this
  exact ⟨ad, hA, this⟩
theorem kws_of {w : World} {kb : Nat} {keys : List ByteArray} (h : Kd.string.C w (some ⟨kb, 0, none⟩) keys.length keys) : Kws kb keys w := fun j hj => by
  obtain ⟨ad, h1, h2⟩ := strs_at h j hj
  injection h1 with h1
  subst h1
  rw [add_plain] at h2
  simpa using h2
theorem ids_of {w : World} {ib : Nat} {ids : List Int} (h : (Kd.int .i64).C w (some ⟨ib, 0, none⟩) ids.length ids) : Ids ib ids w := fun j hj => by
  obtain ⟨ad, h1, h2⟩ := ints_at h j hj
  injection h1 with h1
  subst h1
  rw [add_plain] at h2
  simpa using h2
theorem fresh_bare : Par (fresh 51200) ∧ Bare (fresh 51200) 0 := by
  refine ⟨fun i hi h0 => absurd (fresh_us _ i hi) h0, ⟨by decide, .inl rfl⟩, fun i hi h0 => absurd (fresh_us _ i hi) h0⟩

set_option maxHeartbeats 2000000 in
set_option maxRecDepth 100000 in
theorem build_any (kb ib ck ci : Nat) (keys : List ByteArray) (ids : List Int) (w : World) (hk : Keys keys ids)
    (hkC : Kd.string.C w (some ⟨kb, 0, none⟩) keys.length keys) (hiC : (Kd.int .i64).C w (some ⟨ib, 0, none⟩) ids.length ids) :
    Calls Try.prog 45 #[.slice (some ⟨kb, 0, none⟩) keys.length ck, .slice (some ⟨ib, 0, none⟩) ids.length ci] w fun e w' =>
      ∃ g A, e = .returned (.tuple #[.slice (some ⟨g, 0, none⟩) A.n A.n, .nilIface]) ∧ Trie g A (ksOf keys ids 0 (List.range keys.length)) w' ∧ w.heap.size ≤ g ∧ Below w.heap.size w w' := by
  have HK := Lib.hid hk
  have HKC := Lib.hid hkC
  have HIC := Lib.hid hiC
  have hlen := hk.len
  have hil := hk.il
  have hpos : 0 < keys.length := List.length_pos_iff.2 hk.ne
  have hkbl : kb < w.heap.size := World.block_lt_of_cell? w _ (kws_of hkC 0 hpos)
  have hibl : ib < w.heap.size := World.block_lt_of_cell? w _ (ids_of hiC 0 (by omega))
  clear hk hkC hiC
  go_enter Try.func45, Try.ntmps45
  go_wp2_with fail
  obtain ⟨w1, hw1⟩ : ∃ w1, w1 = (w.alloc (.cells #[] tEl)).alloc (.cells #[.slice (some ⟨w.heap.size, 0, none⟩) 0 0] tDA) := ⟨_, rfl⟩
  obtain ⟨dp, hdp⟩ : ∃ dp, dp = w.heap.size + 1 := ⟨_, rfl⟩
  have hd1 : w1.heap[dp]? = some (.cells #[.slice (some ⟨w.heap.size, 0, none⟩) 0 0] tDA (0, 0)) := by
    subst hw1 hdp
    have := heap_new (w.alloc (.cells #[] tEl)) (.cells #[.slice (some ⟨w.heap.size, 0, none⟩) 0 0] tDA)
    rw [size_alloc] at this
    exact this
  have hb1 : Below w.heap.size w w1 := by subst hw1; exact ((Below.refl _ _).alloc (Nat.le_refl _) _).alloc (by simp) _
  have hs1 : w1.heap.size = w.heap.size + 2 := by subst hw1; simp
  have HB1 := Lib.hid hb1
  have HS1 := Lib.hid hs1
  have HDP := Lib.hid hdp
  have HI := Lib.hid (init_any dp _ w1 hd1)
  rw [← hdp]
  refine (show Calls _ _ _ w1 _ → _ from fun h => by rw [← hw1]; exact h) ?_
  clear hw1 hdp hd1 hb1 hs1
  refine HI.out.mono ?_
  rintro e w2 ⟨rfl, g2, ha2, hg2, hk2⟩
  have HA2 := Lib.hid ha2
  have HG2 := Lib.hid hg2
  have HK2 := Lib.hid hk2
  have HB2 : Hid (Below w.heap.size w w2) := Lib.hid (HB1.out.trans (hk2.below (by have := HDP.out; omega) (by have := HS1.out; omega) (by have := HS1.out; omega)))
  clear ha2 hg2 hk2 HI
  have hne : ((keys.length : Int) != (ids.length : Int)) = false := by simp [hil]
  have hn0 : ((keys.length : Int) == 0) = false := by rw [beq_eq_false_iff_ne]; omega
  go_wp2_with fail
  have HKC2 := Lib.hid (Kd.C_below HKC.out HB2.out)
  have HIC2 := Lib.hid (Kd.C_below HIC.out HB2.out)
  refine (sorted_yes (some ⟨kb, 0, none⟩) ck keys w2 HKC2.out HK.out.asc).mono ?_
  rintro e w3 ⟨rfl, n3, hn3⟩
  have HA3 : Hid (Arr dp g2 (fresh 51200) w3) := Lib.hid (by rw [hn3]; exact ⟨HA2.out.var, HA2.out.arr⟩)
  have HB3 : Hid (Below w.heap.size w w3) := Lib.hid (by rw [hn3]; exact pw_below_drewN HB2.out n3)
  have HS3 : Hid (w.heap.size + 2 ≤ w3.heap.size) := Lib.hid (by rw [hn3]; have := HK2.out.size; have := HS1.out; show _ ≤ w2.heap.size; omega)
  clear hn3
  have hmk : ∀ W : World, (Instr.makeSlice 29 (.int .i64 keys.length) (.int .i64 keys.length)).run Try.prog W = .ok (.slice (some ⟨W.heap.size, 0, none⟩) keys.length keys.length) (W.alloc (.cells (madeCells #[.int .i64 0] keys.length) tInt)) :=
    run_make_row' (P := Try.prog) 29 3 (.int .i64 0) 8 Try.underlying29 (by kernel_rfl) rfl .i64 .i64 keys.length (by omega) (by omega)
  clear hne
  go_wp2_with fail
  obtain ⟨bq, hbq⟩ : ∃ bq, bq = w3.heap.size := ⟨_, rfl⟩
  obtain ⟨w4, hw4⟩ : ∃ w4, w4 = w3.alloc (.cells (madeCells #[.int .i64 0] keys.length) tInt) := ⟨_, rfl⟩
  have hq4 : w4.heap[bq]? = some (.cells (fillA keys.length 0) tInt (0, 0)) := by rw [hw4, hbq, ← fill_zero]; exact heap_new _ _
  have HA4 : Hid (Arr dp g2 (fresh 51200) w4) := Lib.hid (by rw [hw4]; exact HA3.out.alloc _)
  have HB4 : Hid (Below w.heap.size w w4) := Lib.hid (by rw [hw4]; exact HB3.out.alloc HB3.out.size _)
  have HQ4 := Lib.hid hq4
  have hws : w.heap.size ≤ bq := by rw [hbq]; exact HB3.out.size
  have HL4 : Hid (bq < w4.heap.size) := Lib.hid (lt_of_heap hq4)
  rw [← hbq, ← hw4]
  clear hw4 hq4 hbq hmk
  go_loopw [67, 13] (fun i _ wr => ∃ k : Nat, k ≤ keys.length ∧ i = .int .i64 k ∧ Hid (wr.heap[bq]? = some (.cells (fillA keys.length k) tInt (0, 0))) ∧ Hid (Arr dp g2 (fresh 51200) wr) ∧ Hid (Below w.heap.size w wr)) (fun i _ _ => keys.length - (intOf i).toNat)
  case atStart => exact ⟨0, Nat.zero_le _, rfl, HQ4, HA4, HB4⟩
  case round =>
    obtain ⟨k, hk, rfl, HQ, HA, HB⟩ := hrel
    by_cases hlt : k < keys.length
    · have hc := cell_of_heap HQ.out k
      rw [fill_at hlt] at hc
      have hf := frozen_of_heap HQ.out k
      have hdb : dp ≠ bq := typ_ne HA.out.var HQ.out (by decide)
      have hgb : g2 ≠ bq := typ_ne HA.out.arr HQ.out (by decide)
      go_wp2
      refine ⟨⟨k + 1, by omega, by go_num, Lib.hid ?_, Lib.hid ?_, Lib.hid (HB.out.setCell (p := ⟨bq, k, none⟩) hws _)⟩, by simp [intOf]; omega⟩
      · rw [heap_set HQ.out, fill_set hlt]
      · exact HA.out.keep (heap_set_ne hdb _ _) (heap_set_ne hgb _ _)
    · obtain rfl : k = keys.length := by omega
      have hcost := HK.out.cost
      have hadd := add_any dp kb ib ck ci keys ids (by omega) hil HK.out.idr (fun s hs => by have := HK.out.sz s hs; omega) _ 0 0 g2 bq keys.length (List.range keys.length) (fresh 51200) 0 wr (Nat.le_refl _) (by intro h; have h1 := congrArg List.length h; rw [List.length_range, List.length_nil] at h1; omega) (by rw [List.length_range]; omega)
        (fun j hj => by simpa using hj) HK.out.srt HK.out.byt (by omega) HA.out fresh_inv (by omega) fresh_bare.1 fresh_bare.2 (fun _ => ⟨rfl, HK.out.full⟩)
        (fun j hj => by rw [cell_of_heap HQ.out, fill_at (by simpa using hj)]; simp at hj; simp [hj])
        (kws_of (Kd.C_below HKC.out HB.out)) (ids_of (Kd.C_below HIC.out HB.out))
        (fun e => typ_ne HQ.out HA.out.var (by decide) e) (fun e => typ_ne HQ.out HA.out.arr (by decide) e) (by have := HDP.out; omega) (by have := HG2.out; have := HS1.out; omega) (by have := HDP.out; omega) (by have := HG2.out; have := HS1.out; omega) (lt_of_heap HQ.out) (Nat.lt_of_lt_of_le hkbl HB.out.size) (Nat.lt_of_lt_of_le hibl HB.out.size)
      rw [hil, List.length_range] at hadd
      have HADD := Lib.hid hadd
      clear hadd
      go_wp2_with fail
      refine HADD.out.mono ?_
      rintro e w5 ⟨rfl, A5, g5, h1, h2, h3, h4, h5, h6⟩
      obtain ⟨u, hu1, hu2⟩ := h4.some_used (by intro h; have h1 := congrArg List.length h; simp [ksOf] at h1; exact HK.out.ne h1) HK.out.byt
      have hn5 := h2.size
      have HT := Lib.hid (truncate_any dp g5 A5 u w5 h1 hn5 hu1 hu2 (fun i hi => by have := h2.rc i hi; omega))
      have HT5 := Lib.hid h4
      have HI5 := Lib.hid h2
      have HB5 : Hid (Below w.heap.size w w5) := Lib.hid (HB.out.trans (h6.below (by have := HDP.out; omega) (by have := HG2.out; have := HS1.out; omega) HB.out.size))
      have HG5 : Hid (w.heap.size ≤ g5) := Lib.hid (by
        rcases h5 with h | h
        · have := HG2.out; have := HS1.out; omega
        · exact Nat.le_trans HB.out.size h)
      clear h1 h2 h3 h4 h5 h6 hu1 hu2 HADD
      go_wp2_with fail
      refine HT.out.mono ?_
      rintro e w6 ⟨rfl, m, g6, k1, k2, k3, k4, k5, k6⟩
      have HA6 := Lib.hid k1
      have hc6 : w6.cell? ⟨dp, 0, none⟩ = some (.slice (some ⟨g6, 0, none⟩) m m) := k1.cv
      have HTR : Hid (Trie g6 (cutA A5 m) (ksOf keys ids 0 (List.range keys.length)) w6) := Lib.hid ⟨k1.arr, Nat.le_trans k2 hn5, by show 0 < m; omega, fun i hi => HI5.out.rb i (Nat.lt_of_lt_of_le hi k2), fun i hi => HI5.out.rc i (Nat.lt_of_lt_of_le hi k2), (HT5.out.new (fun _ _ => trivial)).cut k2 k4⟩
      have HB6 : Hid (Below w.heap.size w w6) := Lib.hid (HB5.out.trans (k6.below (by have := HDP.out; omega) HG5.out HB5.out.size))
      have HG6 : Hid (w.heap.size ≤ g6) := Lib.hid (by
        rcases k5 with h | h
        · rw [h]; exact HG5.out
        · exact Nat.le_trans HB5.out.size h)
      clear k1 k2 k3 k4 k5 k6 HT
      go_wp2_with fail
      go_ret2
      exact ⟨g6, cutA A5 m, rfl, HTR.out, HG6.out, HB6.out⟩
end Go.Proofs.Ytjifoimkjgepcaa.Da
