/-
  The walks of IndexTable.Search and IndexTable.CommonPrefixSearch.
-/
import Derived.Test.YtjifoimkjgepcaaVa
import Derived.Test.YtjifoimkjgepcaaEm
import Derived.Maps.OwnOps
import Derived.Maps.OwnSet
import Derived.Maps.Views
set_option linter.unusedVariables false
set_option linter.unusedSimpArgs false
namespace Go.Proofs.Ytjifoimkjgepcaa.Da
open Go.RowKit Go.ChangeShapes Go.Proofs.Ytjifoimkjgepcaa.K Go.Proofs.YtjifoimkjgepcaaW.PrintWords Go.Maps

abbrev tI32 : Nat := 21
abbrev tMp : Nat := 99
abbrev tIdx : Nat := 101
theorem lawI : Keyed Try.prog tI32 := int_keyed Try.underlying21
theorem zeroI32 (w : World) : (zeroValue tI32).run Try.prog w = .ok (.int .i32 0) w := by kernel_rfl
theorem wf_i32 {z : Int} (h1 : 0 ≤ z) (h2 : z ≤ 2147483647) : (Lit.int .i32 z).wf = true := by
  simp only [Lit.wf, IntKind.min, IntKind.max, IntKind.signed, IntKind.bits, Bool.and_eq_true, decide_eq_true_eq]
  simp
  omega
/-- A map that tells how often a key stands besides. -/
def DupD (D : DataW Unit) (cnt : Nat → Nat) : Prop := ∀ j : Nat, j ≤ 2147483647 → D.atKey (.int .i32 (j : Int)) (.lit (.int .i32 0)) = .lit (.int .i32 (cnt j : Int))
def Dup (bm : Nat) (cnt : Nat → Nat) (w : World) : Prop := ∃ n D, n ≤ 2147483647 ∧ w.ownsMap Try.prog tI32 (plainElem Try.prog tI32) bm n D ∧ DupD D cnt
theorem Dup.keep {bm : Nat} {cnt : Nat → Nat} {w w' : World} (h : Dup bm cnt w) (hb : w'.heap[bm]? = w.heap[bm]?) : Dup bm cnt w' := by
  obtain ⟨n, D, hn, ⟨es, clock, h1, r⟩, hD⟩ := h
  exact ⟨n, D, hn, ⟨es, clock, hb.trans h1, r⟩, hD⟩
theorem Dup.lt {bm : Nat} {cnt : Nat → Nat} {w : World} (h : Dup bm cnt w) : bm < w.heap.size := by
  obtain ⟨n, D, hn, ⟨es, clock, h1, r⟩, hD⟩ := h
  exact lt_of_heap h1
theorem Dup.below {bm : Nat} {cnt : Nat → Nat} {w w' : World} (h : Dup bm cnt w) (hb : Below w.heap.size w w') : Dup bm cnt w' := h.keep (hb.block bm h.lt)
theorem Dup.drewN {bm : Nat} {cnt : Nat → Nat} {w : World} (h : Dup bm cnt w) (n : Nat) : Dup bm cnt (w.drewN n) := h.keep rfl
theorem dup_val {D : DataW Unit} {cnt : Nat → Nat} (h : DupD D cnt) {j : Nat} (hj : j ≤ 2147483647) {c : Int} (hat : D.atKey (.int .i32 (j : Int)) (.lit (.int .i32 0)) = .lit (.int .i32 c)) : c = cnt j := by
  rw [h j hj] at hat
  injection hat with h1
  injection h1 with _ h2
  exact h2.symm

/-- A row of the places of a key, k of them laid. -/
def fillR (a : Int) (N k : Nat) : Array Value := Array.ofFn (n := N) fun i => .int .i64 (if i.1 < k then a + (i.1 : Int) else 0)
theorem fillR_zero (a : Int) (N : Nat) : madeCells #[.int .i64 0] N = fillR a N 0 := by
  apply Array.ext
  · simp [fillR, size_madeCells]
  · intro j h1 h2
    simp [madeCells, fillR, Nat.mod_one]
theorem fillR_set {a : Int} {N k : Nat} (h : k < N) : (fillR a N k).setIfInBounds k (.int .i64 (a + (k : Int))) = fillR a N (k + 1) := by
  apply Array.ext
  · simp [fillR]
  · intro j h1 h2
    have h3 : j < N := by simpa [fillR] using h2
    rw [Array.getElem_setIfInBounds (by simpa [fillR] using h3)]
    simp only [fillR, Array.getElem_ofFn]
    by_cases e : k = j
    · subst e; simp
    · rw [if_neg e]
      by_cases e2 : j < k
      · simp [e2, show j < k + 1 by omega]
      · simp [e2, show ¬ j < k + 1 by omega]
theorem fillR_all (a : Int) (N : Nat) : (fillR a (N + 1) (N + 1)).toList = (rng a N).map (Value.int .i64) := by
  apply List.ext_getElem
  · simp [fillR, rng]
  · intro i h1 h2
    simp only [fillR, Array.getElem_toList, Array.getElem_ofFn, rng, List.getElem_map, List.getElem_range]
    rw [if_pos (by simpa [fillR] using h1)]
theorem fillR_own {w : World} {base g : Nat} {a : Int} {N : Nat} (hg : w.heap[g]? = some (.cells (fillR a (N + 1) (N + 1)) tInt (0, 0))) (hb : base ≤ g) (hN : N + 1 ≤ maxLen) : OwnI base (.slice (some ⟨g, 0, none⟩) (N + 1) (N + 1)) (rng a N) w := by
  refine ⟨by simp, .inr ⟨g, N + 1, _, by simp [rng_length], hb, hg, by simp [rng_length], hN, by simp [fillR], ?_⟩⟩
  rw [List.length_map, rng_length, ← fillR_all, Nat.mul_one, List.take_of_length_le (by simp [fillR])]
theorem make_ints (N : Nat) (hN : N ≤ 2147483647) (W : World) : (Instr.makeSlice 29 (.int .i32 N) (.int .i32 N)).run Try.prog W = .ok (.slice (some ⟨W.heap.size, 0, none⟩) N N) (W.alloc (.cells (madeCells #[.int .i64 0] N) tInt)) :=
  run_make_row' (P := Try.prog) 29 3 (.int .i64 0) 8 Try.underlying29 (by kernel_rfl) rfl .i32 .i32 N (by omega) (by omega) W

set_option maxHeartbeats 1000000 in
set_option maxRecDepth 100000 in
theorem ixSearch_any (g : Nat) (A : DA) (ks : Ks) (bm : Nat) (cnt : Nat → Nat) (s : ByteArray) (w : World) (ht : Trie g A ks w) (hid : ∀ x ∈ ks, 0 ≤ x.2) (hcl : ∀ a ∈ bl s, 1 ≤ a) (hs : s.size ≤ 2147483647) (hd : Dup bm cnt w)
    (hb : ∃ j : Nat, (findF ks (bl s)).1 = (j : Int) ∧ j + cnt j ≤ 2147483640) :
    Calls Try.prog 80 #[.agg #[.slice (some ⟨g, 0, none⟩) A.n A.n, .map (some bm)], .string s] w fun e w' => ∃ v, e = .returned v ∧ OwnI w.heap.size v (idsF cnt (findF ks (bl s))) w' ∧ Below w.heap.size w w' := by
  obtain ⟨bo, hbo⟩ : ∃ bo, bo = w.heap.size := ⟨_, rfl⟩
  obtain ⟨w1, hw1⟩ : ∃ w1, w1 = w.alloc (.cells #[.slice (some ⟨g, 0, none⟩) A.n A.n, .map (some bm)] tIdx) := ⟨_, rfl⟩
  have hb1 : Below w.heap.size w w1 := by rw [hw1]; exact (Below.refl _ _).alloc (Nat.le_refl _) _
  have hx1 : w1.heap[bo]? = some (.cells #[.slice (some ⟨g, 0, none⟩) A.n A.n, .map (some bm)] tIdx (0, 0)) := by rw [hw1, hbo]; exact heap_new _ _
  have HF := Lib.hid (find_any g A ks s w1 (ht.below hb1) hid hcl hs)
  have HD1 := Lib.hid (hd.below hb1)
  have HB1 := Lib.hid hb1
  have HX1 := Lib.hid hx1
  have hc0 : w1.cell? ⟨bo, 0, none⟩ = some (.slice (some ⟨g, 0, none⟩) A.n A.n) := by rw [cell_of_heap hx1]; rfl
  have HBO := Lib.hid hbo
  obtain ⟨j, hj, hjc⟩ := hb
  clear ht hid hcl hs hd hb1 hx1
  go_enter Try.func80, Try.ntmps80
  go_upto_region 1 with fail
  rw [← hbo, ← hw1]
  clear hw1 hbo
  go_wp2_with fail
  refine HF.out.mono ?_
  rintro e w2 ⟨rfl, hb2⟩
  have hx2 := (hb2.block bo (lt_of_heap HX1.out)).trans HX1.out
  have HD2 := Lib.hid (HD1.out.below hb2)
  have HB2 := Lib.hid (HB1.out.trans (hb2.mono HB1.out.size))
  have hc1 : w2.cell? ⟨bo, 1, none⟩ = some (.map (some bm)) := by rw [cell_of_heap hx2]; rfl
  have HX2 := Lib.hid hx2
  clear hc0 hb2 hx2 HF HD1 HB1 HX1
  have HFE := Lib.hid (rfl : findF ks (bl s) = findF ks (bl s))
  generalize hfe : findF ks (bl s) = f at hj HFE ⊢
  obtain ⟨f1, f2⟩ := f
  simp only at hj
  subst hj
  clear HFE
  have HFE := Lib.hid hfe
  clear hfe
  cases f2 with
  | false =>
    go_wp2_with fail
    go_ret
    exact ⟨.slice none 0 0, rfl, by rw [HFE.out]; exact World.ownsRow_nil _ _ _ _, HB2.out⟩
  | true =>
    obtain ⟨n, D, hn, hown, hD⟩ := HD2.out
    have HOWN := Lib.hid hown
    have HDD := Lib.hid hD
    have HKEY : Hid (keyOf Try.prog tI32 (.int .i32 (j : Int)) = some (.int .i32 (j : Int))) := Lib.hid (keyOf_int_mk Try.underlying21 (wf_i32 (by omega) (by omega)))
    have hj32 : IntKind.i32.wrap (j : Int) = j := IntWalk.i32_in _ (by omega)
    clear hown hD
    go_upto_region 5 with (at_lookup; refine wpList_lookup_own_int _ rfl _ _ tMp rfl tI32 tI32 .i32 lawI Try.underlying99 Try.underlying21 (zeroI32 _) bm n D rfl HOWN.out _ _ rfl HKEY.out ?_; intro c hat hwc; obtain rfl := dup_val HDD.out (by omega) hat; clear hat hwc)
    obtain ⟨N, hN⟩ : ∃ N, N = cnt j := ⟨_, rfl⟩
    rw [← hN] at hjc ⊢
    have HN := Lib.hid hN
    have hmk : ∀ W, (Instr.makeSlice 29 (.int .i32 (1 + (N : Int))) (.int .i32 (1 + (N : Int)))).run Try.prog W = .ok (.slice (some ⟨W.heap.size, 0, none⟩) (N + 1) (N + 1)) (W.alloc (.cells (fillR (j : Int) (N + 1) 0) tInt)) := fun W => by
      rw [← fillR_zero, show (1 : Int) + (N : Int) = ((N + 1 : Nat) : Int) by omega]
      exact make_ints (N + 1) (by omega) W
    clear hN
    go_upto_region 6 with fail
    obtain ⟨lb, hlb⟩ : ∃ lb, lb = w2.heap.size := ⟨_, rfl⟩
    obtain ⟨w3, hw3⟩ : ∃ w3, w3 = w2.alloc (.cells (fillR (j : Int) (N + 1) 0) tInt) := ⟨_, rfl⟩
    have h3 : w3.heap[lb]? = some (.cells (fillR (j : Int) (N + 1) 0) tInt (0, 0)) := by rw [hw3, hlb]; exact heap_new _ _
    have H3 := Lib.hid h3
    have HB3 : Hid (Below w.heap.size w w3) := Lib.hid (by rw [hw3]; exact HB2.out.alloc HB2.out.size _)
    have HLB : Hid (w.heap.size ≤ lb) := Lib.hid (by rw [hlb]; exact HB2.out.size)
    rw [← hw3, ← hlb]
    clear hw3 hlb h3 hc1 hmk HOWN HDD HKEY HB2 HX2 HD2
    go_upto_region 7 with fail
    go_loopw [9] (fun iv wr => ∃ k : Nat, k ≤ N + 1 ∧ iv = .int .i64 k ∧ Hid (wr.heap[lb]? = some (.cells (fillR (j : Int) (N + 1) k) tInt (0, 0))) ∧ Hid (Below w.heap.size w wr)) (fun iv _ => N + 1 - (intOf iv).toNat)
    case atStart => exact ⟨0, Nat.zero_le _, rfl, H3, HB3⟩
    case round =>
      obtain ⟨k, hk, rfl, HL, HB⟩ := hrel
      by_cases hlt : k < N + 1
      · have hfz : wr.frozen? ⟨lb, k, none⟩ = false := frozen_of_heap HL.out k
        have hcl : ∃ u, wr.cell? ⟨lb, k, none⟩ = some u := ⟨_, by rw [cell_of_heap HL.out]; exact Array.getElem?_eq_getElem (by simpa [fillR] using hlt)⟩
        obtain ⟨u, hcl⟩ := hcl
        have HL2 : Hid ((wr.setCell ⟨lb, k, none⟩ (.int .i64 ((j : Int) + (k : Int)))).heap[lb]? = some (.cells (fillR (j : Int) (N + 1) (k + 1)) tInt (0, 0))) := Lib.hid (by rw [heap_set HL.out, fillR_set hlt])
        have HB2' : Hid (Below w.heap.size w (wr.setCell ⟨lb, k, none⟩ (.int .i64 ((j : Int) + (k : Int))))) := Lib.hid (HB.out.setCell (p := ⟨lb, k, none⟩) HLB.out _)
        go_wp2_with fail
        exact ⟨⟨k + 1, by omega, by go_num, HL2, HB2'⟩, by simp [intOf]; omega⟩
      · obtain rfl : k = N + 1 := by omega
        have h4 := fillR_own (base := w.heap.size) HL.out HLB.out (by unfold maxLen; omega)
        go_wp2_with fail
        go_ret
        exact ⟨_, rfl, by rw [HFE.out]; show OwnI _ _ (if true = true then rng _ (cnt (Int.toNat _)) else []) _; rw [if_pos rfl, Int.toNat_natCast, ← HN.out]; exact h4, HB.out⟩

abbrev tSl : Nat := 29
def kRows : Kd (List Int) := Kd.slice tInt (Kd.int .i64)
theorem infoSl : (Try.prog.info? tSl).map (fun i => (i.zero, i.size, i.bytes)) = some (some (.slice none 0 0), kRows.sz, 24) := by
  show _ = some (some (Value.slice none 0 0), 1, 24)
  kernel_rfl
theorem own_R {base : Nat} {v : Value} {xs : List Int} {w : World} {ok : Nat → Prop} (h : OwnI base v xs w) (hok : ∀ k, base ≤ k → ok k) : (Kd.int .i64).R tInt w base ok v xs := by
  have h1 : w.ownsRow base tInt 1 v xs.length (encs (Value.int .i64) xs) := by
    have h2 := h
    unfold OwnI at h2
    rw [List.length_map] at h2
    exact h2
  exact Kd.R_of_own h1 (fun k hk => hok k (own_base h1 k hk))
set_option maxHeartbeats 1000000 in
set_option maxRecDepth 100000 in
theorem ixCommon_any (g : Nat) (A : DA) (ks : Ks) (bm : Nat) (cnt : Nat → Nat) (s : ByteArray) (w : World) (ht : Trie g A ks w) (hid : ∀ x ∈ ks, 0 ≤ x.2) (hcl : ∀ a ∈ bl s, 1 ≤ a) (hs : s.size ≤ 2147483647) (hd : Dup bm cnt w)
    (hb : ∀ h ∈ hitsF ks (bl s) 0, ∃ j : Nat, h.1 = (j : Int) ∧ j + cnt j ≤ 2147483640) :
    Calls Try.prog 81 #[.agg #[.slice (some ⟨g, 0, none⟩) A.n A.n, .map (some bm)], .string s] w fun e w' => ∃ v1 v2, e = .returned (.tuple #[v1, v2]) ∧ OwnI w.heap.size v1 ((hitsF ks (bl s) 0).map (·.2)) w' ∧ kRows.R tSl w' w.heap.size (fun _ => True) v2 (listsF cnt (hitsF ks (bl s) 0)) ∧ Below w.heap.size w w' := by
  obtain ⟨bo, hbo⟩ : ∃ bo, bo = w.heap.size := ⟨_, rfl⟩
  obtain ⟨w1, hw1⟩ : ∃ w1, w1 = w.alloc (.cells #[.slice (some ⟨g, 0, none⟩) A.n A.n, .map (some bm)] tIdx) := ⟨_, rfl⟩
  have hb1 : Below w.heap.size w w1 := by rw [hw1]; exact (Below.refl _ _).alloc (Nat.le_refl _) _
  have hx1 : w1.heap[bo]? = some (.cells #[.slice (some ⟨g, 0, none⟩) A.n A.n, .map (some bm)] tIdx (0, 0)) := by rw [hw1, hbo]; exact heap_new _ _
  have HF := Lib.hid (common_any g A ks s w1 (ht.below hb1) hid hcl hs)
  have HD1 := Lib.hid (hd.below hb1)
  have HB1 := Lib.hid hb1
  have HX1 := Lib.hid hx1
  have hc0 : w1.cell? ⟨bo, 0, none⟩ = some (.slice (some ⟨g, 0, none⟩) A.n A.n) := by rw [cell_of_heap hx1]; rfl
  have HBO := Lib.hid hbo
  have HJ := Lib.hid hb
  have hHl := hitsF_length ks (bl s) 0
  rw [bl_length] at hHl
  clear ht hid hcl hd hb1 hx1 hb
  go_enter Try.func81, Try.ntmps81
  go_upto_region 1 with fail
  rw [← hbo, ← hw1]
  clear hw1 hbo
  go_wp2_with fail
  refine HF.out.mono ?_
  generalize hH : hitsF ks (bl s) 0 = H at HJ hHl ⊢
  rintro e w2 ⟨v1, v2, rfl, ho1, ho2, hb2⟩
  have hx2 := (hb2.block bo (lt_of_heap HX1.out)).trans HX1.out
  have HD2 := Lib.hid (HD1.out.below hb2)
  have HB2 := Lib.hid (HB1.out.trans (hb2.mono HB1.out.size))
  have HX2 := Lib.hid hx2
  have h1len : (H.map (·.1)).length = H.length := by rw [List.length_map]
  obtain ⟨A1, c1, rfl, hC1⟩ := ho1.reads (n := H.length) (by rw [List.length_map])
  obtain ⟨A2, c2, rfl, hC2⟩ := ho2.reads (n := H.length) (by rw [List.length_map])
  have HC1 := Lib.hid hC1
  have HO2 : Hid (OwnI w.heap.size (.slice A2 H.length c2) (H.map (·.2)) w2) := Lib.hid (by have := ho2; exact ⟨this.1, this.2.imp id (fun ⟨a, b, c, h1, h2, h3⟩ => ⟨a, b, c, h1, Nat.le_trans HB1.out.size h2, h3⟩)⟩)
  have HH := Lib.hid hH
  clear hc0 hb2 hx2 HF HD1 HB1 HX1 ho1 ho2 hC1 hC2 hH
  go_upto_region 3 with fail
  go_loopw [5, 8, 9, 10, 11, 21] (fun rv _ _ _ _ jv wr => ∃ k : Nat, k ≤ H.length ∧ jv = .int .i64 k ∧ Hid (kRows.R tSl wr w2.heap.size (fun _ => True) rv (listsF cnt (H.take k))) ∧ Hid (Below w2.heap.size w2 wr)) (fun _ _ _ _ _ jv _ => H.length - (intOf jv).toNat)
  case atStart => exact ⟨0, Nat.zero_le _, rfl, Lib.hid (Kd.R_nil _ _ _ _ _), Lib.hid (Below.refl _ _)⟩
  case round =>
    obtain ⟨k, hk, rfl, HR, HB⟩ := hrel
    by_cases hlt : k < H.length
    · have hl1 : k < (H.map (·.1)).length := by rw [List.length_map]; exact hlt
      obtain ⟨ad1, rfl, hx1⟩ := ints_at HC1.out k hl1
      have hy1 := (HB.out.cell (World.block_lt_of_cell? w2 _ hx1)).trans hx1
      rw [List.getElem_map] at hy1
      obtain ⟨j, hj, hjc⟩ := HJ.out H[k] (List.getElem_mem hlt)
      rw [hj] at hy1
      obtain ⟨N, hN⟩ : ∃ N, N = cnt j := ⟨_, rfl⟩
      have HTK : Hid (listsF cnt (H.take (k + 1)) = listsF cnt (H.take k) ++ [rng (j : Int) N]) := Lib.hid (by rw [List.take_succ_eq_append_getElem hlt, listsF, listsF, List.map_append, hN]; simp [hj])
      have hxr := (HB.out.block bo (lt_of_heap HX2.out)).trans HX2.out
      have hc1 : wr.cell? ⟨bo, 1, none⟩ = some (.map (some bm)) := by rw [cell_of_heap hxr]; rfl
      obtain ⟨n, D, hn, hown, hD⟩ := HD2.out.below HB.out
      have HOWN := Lib.hid hown
      have HDD := Lib.hid hD
      have HKEY : Hid (keyOf Try.prog tI32 (.int .i32 (j : Int)) = some (.int .i32 (j : Int))) := Lib.hid (keyOf_int_mk Try.underlying21 (wf_i32 (by omega) (by omega)))
      have hj32 : IntKind.i32.wrap (j : Int) = j := IntWalk.i32_in _ (by omega)
      rw [← hN] at hjc
      have HN := Lib.hid hN
      have hmk : ∀ W, (Instr.makeSlice 29 (.int .i32 (1 + (N : Int))) (.int .i32 (1 + (N : Int)))).run Try.prog W = .ok (.slice (some ⟨W.heap.size, 0, none⟩) (N + 1) (N + 1)) (W.alloc (.cells (fillR (j : Int) (N + 1) 0) tInt)) := fun W => by
        rw [← fillR_zero, show (1 : Int) + (N : Int) = ((N + 1 : Nat) : Int) by omega]
        exact make_ints (N + 1) (by omega) W
      have hli : (k : Int) < (H.length : Int) := by omega
      obtain ⟨wo, rfl⟩ : ∃ wo, wo = wr := ⟨_, rfl⟩
      clear hl1 hx1 hj hxr hown hD hN
      go_upto_region 6 with (at_lookup; refine wpList_lookup_own_int _ rfl _ _ tMp rfl tI32 tI32 .i32 lawI Try.underlying99 Try.underlying21 (zeroI32 _) bm n D rfl HOWN.out _ _ rfl HKEY.out ?_; intro c hat hwc; obtain rfl := (dup_val HDD.out (by omega) hat).trans (by rw [← HN.out]); clear hat hwc)
      go_upto_region 7 with fail
      obtain ⟨lb, hlb⟩ : ∃ lb, lb = wo.heap.size := ⟨_, rfl⟩
      obtain ⟨w3, hw3⟩ : ∃ w3, w3 = wo.alloc (.cells (fillR (j : Int) (N + 1) 0) tInt) := ⟨_, rfl⟩
      have h3 : w3.heap[lb]? = some (.cells (fillR (j : Int) (N + 1) 0) tInt (0, 0)) := by rw [hw3, hlb]; exact heap_new _ _
      have H3 := Lib.hid h3
      have HB3 : Hid (Below wo.heap.size wo w3) := Lib.hid (by rw [hw3]; exact (Below.refl _ _).alloc (Nat.le_refl _) _)
      have HLB : Hid (wo.heap.size ≤ lb) := Lib.hid (by rw [hlb]; exact Nat.le_refl _)
      rw [← hw3, ← hlb]
      clear hw3 hlb h3 hc1 hmk HOWN HDD HKEY
      go_upto_region 8 with fail
      go_loopw [11] (fun iv wr => ∃ i : Nat, i ≤ N + 1 ∧ iv = .int .i64 i ∧ Hid (wr.heap[lb]? = some (.cells (fillR (j : Int) (N + 1) i) tInt (0, 0))) ∧ Hid (Below wo.heap.size wo wr)) (fun iv _ => N + 1 - (intOf iv).toNat)
      case atStart => exact ⟨0, Nat.zero_le _, rfl, H3, HB3⟩
      case round =>
        obtain ⟨i, hi, rfl, HL, HBi⟩ := hrel
        by_cases hilt : i < N + 1
        · have hfz : wr.frozen? ⟨lb, i, none⟩ = false := frozen_of_heap HL.out i
          have hcl : ∃ u, wr.cell? ⟨lb, i, none⟩ = some u := ⟨_, by rw [cell_of_heap HL.out]; exact Array.getElem?_eq_getElem (by simpa [fillR] using hilt)⟩
          obtain ⟨u, hcl⟩ := hcl
          have HL2 : Hid ((wr.setCell ⟨lb, i, none⟩ (.int .i64 ((j : Int) + (i : Int)))).heap[lb]? = some (.cells (fillR (j : Int) (N + 1) (i + 1)) tInt (0, 0))) := Lib.hid (by rw [heap_set HL.out, fillR_set hilt])
          have HB2' : Hid (Below wo.heap.size wo (wr.setCell ⟨lb, i, none⟩ (.int .i64 ((j : Int) + (i : Int))))) := Lib.hid (HBi.out.setCell (p := ⟨lb, i, none⟩) HLB.out _)
          go_wp2_with fail
          exact ⟨⟨i + 1, by omega, by go_num, HL2, HB2'⟩, by simp [intOf]; omega⟩
        · obtain rfl : i = N + 1 := by omega
          have h4 := fillR_own (base := wo.heap.size) HL.out HLB.out (by unfold maxLen; omega)
          have HRi := Lib.hid (Kd.R_below HR.out HBi.out)
          have HBt := Lib.hid (HB.out.trans (HBi.out.mono HB.out.size))
          have HM : Hid (∀ o : Obj, kRows.M (wr.alloc o) w2.heap.size (fun q => wo.heap.size ≤ q) (rng (j : Int) N) [.slice (some ⟨lb, 0, none⟩) (N + 1) (N + 1)]) := Lib.hid (fun o => ⟨_, rfl, Kd.R_alloc (Kd.R_lower (own_R h4 (fun _ h => h)) HB.out.size) o⟩)
          have HV : Hid (∀ q, wo.heap.size ≤ q → some q ≠ u5.ownBlock) := Lib.hid (fun q hq e => by have := Kd.R_lt HR.out q e.symm; omega)
          clear h4
          go_upto_region 12 with (at_builtin; refine kapp (w0 := w2) kRows w2.heap.size rfl _ _ 54 tSl (.slice none 0 0) 24 rfl Try.underlying54 infoSl rfl (by decide) (by decide) _ (listsF cnt (H.take k)) (rng (j : Int) N) [.slice (some ⟨lb, 0, none⟩) (N + 1) (N + 1)] (fun _ => True) (fun q => wo.heap.size ≤ q) wr.heap.size rfl rfl ?hg (HM.out _) (fun q hq => ⟨trivial, HV.out q hq⟩) (fun _ _ => trivial) (Kd.R_alloc HRi.out _) (HBt.out.alloc HBt.out.size _) (by have := HBt.out.size; simp; omega) ?hl ?_)
          case hg =>
            intro q u hq
            rw [cell_of_heap (heap_new wr _)]
            simpa using hq
          case hl => simp [listsF]; omega
          intro v5 w5 hr5 hb5 hg5 hat5
          have HX1 : Hid (kRows.R tSl w5 w2.heap.size (fun _ => True) v5 (listsF cnt (H.take (k + 1)))) := Lib.hid (by rw [HTK.out]; exact hr5)
          have HX3 := Lib.hid hb5
          clear hr5 hb5 hg5 hat5
          go_wp2_with fail
          exact ⟨⟨k + 1, by omega, by go_num, HX1, HX3⟩, by simp [intOf]; omega⟩
    · obtain rfl : k = H.length := by omega
      have hr := HR.out
      rw [List.take_length] at hr
      have HR2 := Lib.hid (Kd.R_lower hr HB2.out.size)
      have HO3 := Lib.hid (HO2.out.below HB.out)
      have HB3 := Lib.hid (HB2.out.trans (HB.out.mono HB2.out.size))
      clear hr
      go_wp2_with fail
      go_ret2
      exact ⟨_, _, rfl, by rw [HH.out]; exact HO3.out, by rw [HH.out]; exact HR2.out, HB3.out⟩
end Go.Proofs.Ytjifoimkjgepcaa.Da
