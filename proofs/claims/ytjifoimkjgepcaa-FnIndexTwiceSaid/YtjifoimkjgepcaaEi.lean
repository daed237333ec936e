/-
  The walk of laws.FnTrieMisses.
-/
import Derived.Test.YtjifoimkjgepcaaEh
import Derived.Test.YtjifoimkjgepcaaGd
set_option linter.unusedVariables false
set_option linter.unusedSimpArgs false
namespace Go.Proofs.Ytjifoimkjgepcaa.Da
open Go.RowKit Go.ChangeShapes Go.Proofs.Ytjifoimkjgepcaa.K Go.Proofs.YtjifoimkjgepcaaW.PrintWords

theorem mem_ks {keys : List ByteArray} {ids : List Int} {x : List Nat × Int} : x ∈ ksAll keys ids ↔ ∃ j, j < keys.length ∧ x = (bl (kAt keys j), idAt ids j) := by
  unfold ksAll ksOf
  rw [List.mem_map]
  constructor
  · rintro ⟨j, hj, rfl⟩
    exact ⟨j, by simpa using hj, by simp⟩
  · rintro ⟨j, hj, rfl⟩
    exact ⟨j, by simpa using hj, by simp⟩
theorem bl_inj {a b : ByteArray} (h : bl a = bl b) : a = b := by
  apply ba_toList
  rw [ByteArray.toList_eq, ByteArray.toList_eq]
  exact (List.map_inj_right (fun x y h => UInt8.toNat.inj h)).1 h
theorem bl_nil {s : ByteArray} (h : bl s = []) : s.toList.isEmpty = true := by
  have : s.data.toList = [] := List.map_eq_nil_iff.1 h
  rw [ByteArray.toList_eq, this]
  rfl
theorem key_at {keys : List ByteArray} {s : ByteArray} (h : s ∈ keys) : ∃ j, j < keys.length ∧ kAt keys j = s := by
  obtain ⟨j, hj, rfl⟩ := List.mem_iff_getElem.1 h
  exact ⟨j, hj, kAt_eq hj⟩
theorem at_key {keys : List ByteArray} {j : Nat} (h : j < keys.length) : kAt keys j ∈ keys := by
  rw [kAt_eq h]
  exact List.getElem_mem h
theorem misses_law {keys : List ByteArray} {ids : List Int} {st : Bool} {s : ByteArray} (ho : Ord keys st) (hh : HalfNo keys s) : (findF (ksAll keys ids) (bl s)).2 = memB s keys := by
  have hin : s ∈ keys → walkK (bl s) (ksAll keys ids) ≠ [] ∧ bl s ≠ [] := by
    intro h
    obtain ⟨j, hj, e⟩ := key_at h
    refine ⟨?_, ?_⟩
    · intro e2
      have : (([] : List Nat), idAt ids j) ∈ walkK (bl s) (ksAll keys ids) := mem_walkK.2 (mem_ks.2 ⟨j, hj, by rw [e, List.append_nil]⟩)
      rw [e2] at this
      cases this
    · intro e2
      have := (ho.2 j hj).1
      rw [e, bl_nil e2] at this
      cases this
  unfold findF
  split
  · next h =>
    rw [memB_false]
    intro hm
    exact (hin hm).2 h
  · next h =>
    split
    · next h2 =>
      rw [memB_false]
      intro hm
      exact (hin hm).1 h2
    · next h2 =>
      rw [memB_true]
      rcases hh with ⟨hm, _⟩ | hn
      · exact hm
      · exfalso
        obtain ⟨⟨r, id⟩, hx⟩ := List.exists_mem_of_ne_nil _ h2
        obtain ⟨j, hj, e⟩ := mem_ks.1 (mem_walkK.1 hx)
        injection e with e1 e2
        exact hn _ (at_key hj) ⟨r, e1⟩

set_option maxHeartbeats 2000000 in
set_option maxRecDepth 100000 in
theorem trieMisses_walk (Ak Ai : Option Addr) (ck ci : Nat) (keys : List ByteArray) (ids : List Int) (s : ByteArray) (w : World) (hkC : Kd.string.C w Ak keys.length keys) (hkc : keys.length ≤ ck) (hiC : (Kd.int .i64).C w Ai ids.length ids) :
    Calls Try.prog 6 #[.slice Ak keys.length ck, .slice Ai ids.length ci, .string s] w fun e w' => e = .returned (.bool true) ∧ Below w.heap.size w w' := by
  have HKC := Lib.hid hkC
  have HIC := Lib.hid hiC
  have HKc := Lib.hid hkc
  clear hkC hiC hkc
  go_enter Try.func6, Try.ntmps6
  go_wp2_with fail
  refine (zzFits3_any Ak ck keys w HKC.out).mono ?_
  rintro e w1 ⟨b, rfl, hb, hw1⟩
  have HF := Lib.hid hb
  have HL1 := Lib.hid hw1
  clear hb hw1
  cases b
  · go_wp2
    go_ret
    exact ⟨rfl, HL1.out⟩
  by_cases hbig : 2147483647 < (ids.length : Int)
  · go_wp2
    go_ret
    exact ⟨rfl, HL1.out⟩
  by_cases hbs : 2147483647 < (s.size : Int)
  · go_wp2
    go_ret
    exact ⟨rfl, HL1.out⟩
  have hss : s.size ≤ 2147483647 := by omega
  have HFT := Lib.hid (HF.out (by trivial))
  have hkl := HFT.out.1
  go_wp2_with fail
  refine (few_two _ Ak (some ⟨w1.heap.size, 0, none⟩) ck 1 keys [s] (w1.alloc (.cells #[.string s] 9)) (Kd.C_alloc (Kd.C_below HKC.out HL1.out) _) HKc.out HFT.out (strs_new w1 s) (by simp) ⟨by simp, by simpa using hss⟩ (by simp)).mono ?_
  rintro e w2 ⟨b2, rfl, hb2, hw2⟩
  have HS := Lib.hid hb2
  have HL2 := Lib.hid ((HL1.out.alloc HL1.out.size _).trans (hw2.mono (by have := HL1.out.size; simp; omega)))
  clear hb2 hw2
  cases b2
  · go_wp2_with fail
    refine (builds_any w2).mono ?_
    rintro e w3 ⟨rfl, hw3⟩
    have HL3 := Lib.hid (HL2.out.trans (hw3.mono HL2.out.size))
    clear hw3
    go_wp2_with fail
    go_ret
    exact ⟨rfl, HL3.out⟩
  go_wp2_with fail
  refine (ordered_any Ak ck keys true w2 (Kd.C_below HKC.out HL2.out) HFT.out).mono ?_
  rintro e w3 ⟨b3, rfl, hb3, hw3⟩
  have HO := Lib.hid hb3
  have HL3 := Lib.hid (HL2.out.trans (hw3.mono HL2.out.size))
  clear hb3 hw3
  cases b3
  · go_wp2_with fail
    refine (builds_any w3).mono ?_
    rintro e w4 ⟨rfl, hw4⟩
    have HL4 := Lib.hid (HL3.out.trans (hw4.mono HL3.out.size))
    clear hw4
    go_wp2_with fail
    go_ret
    exact ⟨rfl, HL4.out⟩
  go_wp2_with fail
  refine (goodIDs_any Ai ci ids keys.length w3 (Kd.C_below HIC.out HL3.out) hkl).mono ?_
  rintro e w4 ⟨b4, rfl, hb4, rfl⟩
  have HG := Lib.hid hb4
  clear hb4
  cases b4
  · go_wp2_with fail
    refine (builds_any w4).mono ?_
    rintro e w5 ⟨rfl, hw5⟩
    have HL5 := Lib.hid (HL3.out.trans (hw5.mono HL3.out.size))
    clear hw5
    go_wp2_with fail
    go_ret
    exact ⟨rfl, HL5.out⟩
  have HK := Lib.hid (keys_of (HO.out.1 (by trivial)) (HG.out (by trivial)).1 (HG.out (by trivial)).2 (by have := HS.out (by trivial); omega))
  go_wp2_with fail
  have HL5 := Lib.hid (HL3.out.alloc HL3.out.size (.cells #[.string s] 9))
  refine (clean_one _ s _ hss (heap_new w4 _)).mono ?_
  rintro e w5 ⟨b5, rfl, hb5, hw5⟩
  have HZ := Lib.hid hb5
  rw [← hw5] at HL5
  clear hb5 hw5
  cases b5
  · go_wp2_with fail
    refine (builds_any w5).mono ?_
    rintro e w6 ⟨rfl, hw6⟩
    have HL6 := Lib.hid (HL5.out.trans (hw6.mono HL5.out.size))
    clear hw6
    go_wp2_with fail
    go_ret
    exact ⟨rfl, HL6.out⟩
  go_wp2_with fail
  refine (half_any Ak ck keys s w5 (Kd.C_below HKC.out HL5.out) HFT.out hss).mono ?_
  rintro e w6 ⟨b6, rfl, hb6, rfl⟩
  have HH := Lib.hid hb6
  clear hb6
  cases b6
  rotate_left
  · go_wp2_with fail
    refine (builds_any w5).mono ?_
    rintro e w6 ⟨rfl, hw6⟩
    have HL6 := Lib.hid (HL5.out.trans (hw6.mono HL5.out.size))
    clear hw6
    go_wp2_with fail
    go_ret
    exact ⟨rfl, HL6.out⟩
  go_wp2_with fail
  refine (lawTrie_any Ak Ai ck ci keys ids s w5 HK.out (Kd.C_below HKC.out HL5.out) (Kd.C_below HIC.out HL5.out) (HZ.out.1 (by trivial)) hss).mono ?_
  rintro e w6 ⟨A1, c1, A2, c2, rfl, hC1, hC2, hw6⟩
  have HL6 := Lib.hid (HL5.out.trans (hw6.mono HL5.out.size))
  have HM : Hid ((ansF (ksAll keys ids) s).1.2 = memB s keys) := Lib.hid (misses_law (HO.out.1 (by trivial)) (HH.out (by trivial)))
  clear hC1 hC2 hw6
  obtain ⟨a, ha⟩ : ∃ a, ansF (ksAll keys ids) s = a := ⟨_, rfl⟩
  rw [ha] at HM ⊢
  clear ha
  go_upto_region 6 with fail
  have HL7 := Lib.hid (HL6.out.alloc HL6.out.size (.cells #[.int .i64 a.1.1, .bool a.1.2, .int .i64 a.2.1.1, .bool a.2.1.2, .slice A1 a.2.2.1.length c1, .slice A2 a.2.2.2.length c2] tAns)).drew
  have hat : AnsAt w6.heap.size (.int .i64 a.1.1) (.bool a.1.2) (.int .i64 a.2.1.1) (.bool a.2.1.2) (.slice A1 a.2.2.1.length c1) (.slice A2 a.2.2.2.length c2) (w6.alloc (.cells #[.int .i64 a.1.1, .bool a.1.2, .int .i64 a.2.1.1, .bool a.2.1.2, .slice A1 a.2.2.1.length c1, .slice A2 a.2.2.2.length c2] tAns)).drew := heap_new w6 _
  refine Gd.WT_start (by as_aux_lemma => kernel_rfl) (by as_aux_lemma => kernel_rfl) (by as_aux_lemma => kernel_rfl) (fun _ _ _ _ h => h) ?_
  generalize (w6.alloc (.cells #[.int .i64 a.1.1, .bool a.1.2, .int .i64 a.2.1.1, .bool a.2.1.2, .slice A1 a.2.2.1.length c1, .slice A2 a.2.2.2.length c2] tAns)).drew = wd at hat HL7 ⊢
  obtain ⟨pb, hpb⟩ : ∃ pb, pb = w6.heap.size := ⟨_, rfl⟩
  rw [← hpb] at hat ⊢
  clear hpb
  have HA := Lib.hid hat
  have hc1 := Lib.hid hat.c.2.1
  clear hat
  refine ⟨(fun w' : World => w'.cell? ⟨pb, 1, none⟩ = some (.bool a.1.2) ∧ Below w.heap.size w w'), ⟨hc1.out, HL7.out⟩, fun hHeld => ?_⟩
  refine Gd.WT_take 0 (v := ?_) (by simp only [List.getElem?_toArray, List.getElem?_cons_succ, List.getElem?_cons_zero]; rfl) (Or.inl ⟨by rfl, ?_⟩) (by assumption) ?_
  rotate_left
  · ((intro w hSw; (try dsimp only at hSw); go_simp); (try with_reducible rfl))
  try simp only [Act.put, List.foldl_cons, List.foldl_nil, List.setIfInBounds_toArray, List.set_cons_zero, List.set_cons_succ]
  refine Gd.WT_take 1 (v := ?_) (by simp only [List.getElem?_toArray, List.getElem?_cons_succ, List.getElem?_cons_zero]; rfl) (Or.inl ⟨by rfl, ?_⟩) (by assumption) ?_
  rotate_left
  · ((intro w hSw; (try dsimp only at hSw); go_simp); (try with_reducible rfl))
  try simp only [Act.put, List.foldl_cons, List.foldl_nil, List.setIfInBounds_toArray, List.set_cons_zero, List.set_cons_succ]
  refine Gd.WT_take 2 (v := ?_) (by simp only [List.getElem?_toArray, List.getElem?_cons_succ, List.getElem?_cons_zero]; rfl) (Or.inl ⟨by rfl, ?_⟩) (by assumption) ?_
  rotate_left
  · ((intro w hSw; (try dsimp only at hSw); go_simp); (try with_reducible rfl))
  try simp only [Act.put, List.foldl_cons, List.foldl_nil, List.setIfInBounds_toArray, List.set_cons_zero, List.set_cons_succ]
  refine Gd.WT_take 3 (v := ?_) (by simp only [List.getElem?_toArray, List.getElem?_cons_succ, List.getElem?_cons_zero]; rfl) (Or.inl ⟨by rfl, ?_⟩) (by assumption) ?_
  rotate_left
  · ((intro w hSw; (try dsimp only at hSw); go_simp); (try with_reducible rfl))
  try simp only [Act.put, List.foldl_cons, List.foldl_nil, List.setIfInBounds_toArray, List.set_cons_zero, List.set_cons_succ]
  refine Gd.WT_take 4 (v := ?_) (by simp only [List.getElem?_toArray, List.getElem?_cons_succ, List.getElem?_cons_zero]; rfl) (Or.inl ⟨by rfl, ?_⟩) (by assumption) ?_
  rotate_left
  · ((intro w hSw; (try dsimp only at hSw); go_simp); (try with_reducible rfl))
  try simp only [Act.put, List.foldl_cons, List.foldl_nil, List.setIfInBounds_toArray, List.set_cons_zero, List.set_cons_succ]
  refine Gd.WT_take 5 (v := ?_) (by simp only [List.getElem?_toArray, List.getElem?_cons_succ, List.getElem?_cons_zero]; rfl) (Or.inl ⟨by rfl, ?_⟩) (by assumption) ?_
  rotate_left
  · ((intro w hSw; (try dsimp only at hSw); go_simp); (try with_reducible rfl))
  try simp only [Act.put, List.foldl_cons, List.foldl_nil, List.setIfInBounds_toArray, List.set_cons_zero, List.set_cons_succ]
  refine Gd.WT_take 6 (v := ?_) (by simp only [List.getElem?_toArray, List.getElem?_cons_succ, List.getElem?_cons_zero]; rfl) (Or.inl ⟨by rfl, ?_⟩) (by assumption) ?_
  rotate_left
  · ((intro w hSw; (try dsimp only at hSw); go_simp); (try with_reducible rfl))
  try simp only [Act.put, List.foldl_cons, List.foldl_nil, List.setIfInBounds_toArray, List.set_cons_zero, List.set_cons_succ]
  refine Gd.WT_call 7 (by simp only [List.getElem?_toArray, List.getElem?_cons_succ, List.getElem?_cons_zero]; rfl) (by as_aux_lemma => kernel_rfl) (fun K hK => ?_)
  go_simp
  (go_at_call 28; with_reducible refine (hasStr_any Ak ck keys s wd (Kd.C_below HKC.out HL7.out)).mono ?_)
  rintro e w8 ⟨rfl, hw8⟩
  have HL8 := Lib.hid (HL7.out.trans (hw8.mono HL7.out.size))
  have HA8 := Lib.hid (HA.out.below hw8)
  have hc8 := Lib.hid HA8.out.c.2.1
  clear hw8
  go_simp
  refine hK.out _ _ ?_ (fun hHeld => ?_)
  · exact ⟨hc8.out, HL8.out⟩
  clear hK K
  try simp only [Act.put, List.foldl_cons, List.foldl_nil, List.setIfInBounds_toArray, List.set_cons_zero, List.set_cons_succ]
  have hq := HM.out
  have hqq : (a.1.2 == memB s keys) = true := by rw [hq]; simp
  clear hq
  refine Gd.WT_take 8 (v := ?_) (by simp only [List.getElem?_toArray, List.getElem?_cons_succ, List.getElem?_cons_zero]; rfl) (Or.inl ⟨by rfl, ?_⟩) (by assumption) ?_
  rotate_left
  · ((intro w hSw; (try dsimp only at hSw); go_simp); (try with_reducible rfl))
  try simp only [Act.put, List.foldl_cons, List.foldl_nil, List.setIfInBounds_toArray, List.set_cons_zero, List.set_cons_succ]
  refine Gd.WT_passes (by assumption) 9 [some true, some true] [(some 68, .bool true), (some 69, .bool true)] 11 _ (by kernel_rfl) (by kernel_rfl) rfl ?_
  simp only [Act.put, List.foldl_cons, List.foldl_nil, List.setIfInBounds_toArray, List.set_cons_zero, List.set_cons_succ]
  refine Gd.WT_call 11 (by simp only [List.getElem?_toArray, List.getElem?_cons_succ, List.getElem?_cons_zero]; rfl) (by as_aux_lemma => kernel_rfl) (fun K hK => ?_)
  go_simp
  (go_at_call 23; with_reducible refine (builds_any w8).mono ?_)
  rintro e w9 ⟨rfl, hw9⟩
  have HL9 := Lib.hid (HL8.out.trans (hw9.mono HL8.out.size))
  have HA9 := Lib.hid (HA8.out.below hw9)
  have hc9 := Lib.hid HA9.out.c.2.1
  clear hw9
  go_simp
  refine hK.out _ _ ?_ (fun hHeld => ?_)
  · exact ⟨hc9.out, HL9.out⟩
  clear hK K
  try simp only [Act.put, List.foldl_cons, List.foldl_nil, List.setIfInBounds_toArray, List.set_cons_zero, List.set_cons_succ]
  refine Gd.WT_take 12 (v := ?_) (by simp only [List.getElem?_toArray, List.getElem?_cons_succ, List.getElem?_cons_zero]; rfl) (Or.inl ⟨by rfl, ?_⟩) (by assumption) ?_
  rotate_left
  · ((intro w hSw; (try dsimp only at hSw); go_simp); (try with_reducible rfl))
  try simp only [Act.put, List.foldl_cons, List.foldl_nil, List.setIfInBounds_toArray, List.set_cons_zero, List.set_cons_succ]
  refine Gd.WT_take 13 (v := ?_) (by simp only [List.getElem?_toArray, List.getElem?_cons_succ, List.getElem?_cons_zero]; rfl) (Or.inl ⟨by rfl, ?_⟩) (by assumption) ?_
  rotate_left
  · ((intro w hSw; (try dsimp only at hSw); go_simp); (try with_reducible rfl))
  try simp only [Act.put, List.foldl_cons, List.foldl_nil, List.setIfInBounds_toArray, List.set_cons_zero, List.set_cons_succ]
  refine Gd.WT_end (by exact Nat.le_refl 14) ?_
  go_wp2_with fail
  go_ret
  exact ⟨by first | rfl | (simp; done), HL9.out⟩
end Go.Proofs.Ytjifoimkjgepcaa.Da
