/-
  The walk of laws.ordered.
-/
import Derived.Test.YtjifoimkjgepcaaEb
import Derived.Test.YtjifoimkjgepcaaGd
set_option linter.unusedVariables false
set_option linter.unusedSimpArgs false
namespace Go.Proofs.Ytjifoimkjgepcaa.Da
open Go.RowKit Go.Proofs.Ytjifoimkjgepcaa.K Go.Proofs.YtjifoimkjgepcaaW.PrintWords

/-- A key stands where it may. -/
def OkAt (xs : List ByteArray) (st : Bool) (i : Nat) : Prop :=
  (kAt xs i).toList.isEmpty = false ∧ noZ (kAt xs i) ∧ (0 < i → ltB (kAt xs i) (kAt xs (i - 1)) = false ∧ (st = true → ((kAt xs i).toList == (kAt xs (i - 1)).toList) = false))
/-- Some bool is returned, and it tells p. -/
def BoolIff (p : Prop) (w : World) (e : Ending) (w' : World) : Prop := ∃ b : Bool, e = .returned (.bool b) ∧ (b = true ↔ p) ∧ Below w.heap.size w w'
def Ord (xs : List ByteArray) (st : Bool) : Prop := xs ≠ [] ∧ ∀ i, i < xs.length → OkAt xs st i
theorem upto_succ {p : Nat → Prop} {k : Nat} (h : ∀ i, i < k → p i) (hk : p k) : ∀ i, i < k + 1 → p i := by
  intro i hi
  by_cases e : i = k
  · subst e; exact hk
  · exact h i (by omega)
theorem clean_one (b : Nat) (s : ByteArray) (w : World) (hb : s.size ≤ 2147483647) (h : w.heap[b]? = some (.cells #[.string s] 9 (0, 0))) :
    Calls Try.prog 22 #[.slice (some ⟨b, 0, none⟩) 1 1] w fun e w' => ∃ x : Bool, e = .returned (.bool x) ∧ (x = true ↔ noZ s) ∧ w' = w := by
  have hC : Kd.string.C w (some ⟨b, 0, none⟩) [s].length [s] := C_of_block (cs := [.string s]) h (reps_strs _ [s]) (by simp)
  refine (clean_any _ 1 [s] w hC ⟨by simp, by simpa using hb⟩).mono ?_
  rintro e w' ⟨x, rfl, hx, rfl⟩
  exact ⟨x, rfl, by simpa using hx, rfl⟩

set_option maxHeartbeats 2000000 in
set_option maxRecDepth 20000 in
theorem ordered_any (A : Option Addr) (c : Nat) (xs : List ByteArray) (st : Bool) (w : World) (hC : Kd.string.C w A xs.length xs) (hb : fits3 xs) :
    Calls Try.prog 20 #[.slice A xs.length c, .bool st] w (BoolIff (Ord xs st) w) := by
  have hm := hC.2.1
  have HC := Lib.hid hC
  have hbl := hb.1
  have HB := Lib.hid hb
  clear hC hb
  go_enter Try.func20, Try.ntmps20
  go_wp2_with fail
  go_loopw [8, 5] (fun i x wr => ∃ k : Nat, k ≤ xs.length ∧ i = .int .i64 k ∧ Hid (∀ i, i < k → OkAt xs st i) ∧ Below w.heap.size w wr) (fun i _ _ => xs.length - (intOf i).toNat)
  case atStart => exact ⟨0, Nat.zero_le _, rfl, Lib.hid (fun i hi => absurd hi (by omega)), Below.refl _ _⟩
  case round =>
    obtain ⟨k, hk, rfl, hall, hbel⟩ := hrel
    by_cases hlt : k < xs.length
    · obtain ⟨ad, rfl, hs⟩ := strs_at HC.out k hlt
      have hs' := (hbel.cell (World.block_lt_of_cell? w _ hs)).trans hs
      have HL := Lib.hid hbel
      have HSZ := Lib.hid (HB.out.2 _ (List.getElem_mem hlt))
      have hkA := (kAt_eq hlt).symm
      have HKT : Hid (∀ m, m + 1 = k → wr.cell? (ad.add m) = some (.string (kAt xs m))) := Lib.hid fun m hm => by
        have hl2 : m < xs.length := by omega
        obtain ⟨ad2, e, h⟩ := strs_at HC.out m hl2
        cases e
        rw [kAt_eq hl2]
        exact (hbel.cell (World.block_lt_of_cell? w _ h)).trans h
      obtain ⟨s, hS⟩ : ∃ s, s = xs[k] := ⟨_, rfl⟩
      rw [← hS] at hs' hkA HSZ
      have HSK := Lib.hid hkA.symm
      clear hs hbel hkA hS
      go_upto_region 4 with fail
      refine Gd.WT_start (by as_aux_lemma => kernel_rfl) (by as_aux_lemma => kernel_rfl) (by as_aux_lemma => kernel_rfl) (fun _ _ _ _ h => h) ?_
      have HD1 := Lib.hid (show wr.drew.cell? (ad.add k) = some (.string s) from hs')
      have HLd := Lib.hid HL.out.drew
      have HKd : Hid (∀ m, m + 1 = k → wr.drew.cell? (ad.add m) = some (.string (kAt xs m))) := Lib.hid HKT.out
      generalize wr.drew = wd at HD1 HLd HKd ⊢
      clear HL hs' HKT
      obtain ⟨B1, hB1⟩ : ∃ B1 : Bool, s.toList.isEmpty = B1 := ⟨_, rfl⟩
      have HB1 := Lib.hid hB1
      rcases Nat.eq_zero_or_pos k with hk0 | hk0
      · have hg1 : decide ((0 : Int) < (k : Int)) = false := decide_eq_false (by omega)
        have hg2 : decide (0 < k) = false := decide_eq_false (by omega)
        have HK0 := Lib.hid hk0
        clear hk0 HKd
        refine ⟨(fun w' : World => w'.cell? (ad.add k) = some (.string s) ∧ Below w.heap.size w w'), ⟨HD1.out, HLd.out⟩, fun hHeld => ?_⟩
        refine Gd.WT_take 0 (v := ?_) (by simp only [List.getElem?_toArray, List.getElem?_cons_succ, List.getElem?_cons_zero]; rfl) (Or.inl ⟨by rfl, ?_⟩) (by assumption) ?_
        rotate_left
        · ((intro w hSw; (try dsimp only at hSw); go_simp); (try with_reducible rfl))
        try simp only [Act.put, List.foldl_cons, List.foldl_nil, List.setIfInBounds_toArray, List.set_cons_zero, List.set_cons_succ]
        refine Gd.WT_take 1 (v := ?_) (by simp only [List.getElem?_toArray, List.getElem?_cons_succ, List.getElem?_cons_zero]; rfl) (Or.inl ⟨by rfl, ?_⟩) (by assumption) ?_
        rotate_left
        · ((intro w hSw; (try dsimp only at hSw); go_simp); (try with_reducible rfl))
        try simp only [Act.put, List.foldl_cons, List.foldl_nil, List.setIfInBounds_toArray, List.set_cons_zero, List.set_cons_succ]
        refine Gd.WT_take 2 (v := ?_) (by simp only [List.getElem?_toArray, List.getElem?_cons_succ, List.getElem?_cons_zero]; rfl) (Or.inl ⟨by rfl, ?_⟩) (by assumption) ?_
        rotate_left
        · ((intro w hSw; (try dsimp only at hSw); go_simp); (try with_reducible rfl))
        try simp only [Act.put, List.foldl_cons, List.foldl_nil, List.setIfInBounds_toArray, List.set_cons_zero, List.set_cons_succ]
        refine Gd.WT_take 3 (v := ?_) (by simp only [List.getElem?_toArray, List.getElem?_cons_succ, List.getElem?_cons_zero]; rfl) (Or.inl ⟨by rfl, ?_⟩) (by assumption) ?_
        rotate_left
        · ((intro w hSw; (try dsimp only at hSw); go_simp); (try with_reducible rfl))
        try simp only [Act.put, List.foldl_cons, List.foldl_nil, List.setIfInBounds_toArray, List.set_cons_zero, List.set_cons_succ]
        refine Gd.WT_take 4 (v := ?_) (by simp only [List.getElem?_toArray, List.getElem?_cons_succ, List.getElem?_cons_zero]; rfl) (Or.inl ⟨by rfl, ?_⟩) (by assumption) ?_
        rotate_left
        · ((intro w hSw; (try dsimp only at hSw); go_simp); (try with_reducible rfl))
        try simp only [Act.put, List.foldl_cons, List.foldl_nil, List.setIfInBounds_toArray, List.set_cons_zero, List.set_cons_succ]
        cases B1
        rotate_left
        · have HLx := HLd
          refine Gd.WT_take 5 (v := ?_) (by simp only [List.getElem?_toArray, List.getElem?_cons_succ, List.getElem?_cons_zero]; rfl) (Or.inl ⟨by rfl, ?_⟩) (by assumption) ?_
          rotate_left
          · ((intro w hSw; (try dsimp only at hSw); go_simp); (try with_reducible rfl))
          try simp only [Act.put, List.foldl_cons, List.foldl_nil, List.setIfInBounds_toArray, List.set_cons_zero, List.set_cons_succ]
          refine Gd.WT_passes (by assumption) 6 [none, none, none, none, none, none, none, some true, some true, none, none, none, none, none, none, none, none, none, none, none, none, none, none, none, none, none, none, none, none, none, none, none, none, none, none, none, none, none, some true] [(some 17, undef), (some 18, undef), (some 19, undef), (some 20, undef), (some 21, undef), (some 22, undef), (some 23, undef), (some 24, .bool true), (some 25, .bool true), (some 26, undef), (some 27, undef), (some 28, undef), (some 29, undef), (some 30, undef), (some 31, undef), (some 32, undef), (some 33, undef), (some 34, undef), (some 35, undef), (some 36, undef), (some 37, undef), (some 38, undef), (some 39, undef), (some 40, undef), (some 41, undef), (some 42, undef), (some 43, undef), (some 44, undef), (some 45, undef), (some 46, undef), (some 47, undef), (some 48, undef), (some 49, undef), (some 50, undef), (some 51, undef), (some 52, undef), (some 53, undef), (some 54, undef), (some 55, .bool true)] 45 _ (by kernel_rfl) (by kernel_rfl) rfl ?_
          simp only [Act.put, List.foldl_cons, List.foldl_nil, List.setIfInBounds_toArray, List.set_cons_zero, List.set_cons_succ]
          refine Gd.WT_end (by exact Nat.le_refl 45) ?_
          go_wp2_with fail
          go_ret
          refine ⟨false, rfl, ⟨by simp, fun h => ?_⟩, HLx.out⟩
          have ok := h.2 k hlt
          unfold OkAt at ok
          rw [HSK.out] at ok
          have o1 := ok.1; rw [HB1.out] at o1; cases o1
        refine Gd.WT_take 5 (v := ?_) (by simp only [List.getElem?_toArray, List.getElem?_cons_succ, List.getElem?_cons_zero]; rfl) (Or.inl ⟨by rfl, ?_⟩) (by assumption) ?_
        rotate_left
        · ((intro w hSw; (try dsimp only at hSw); go_simp); (try with_reducible rfl))
        try simp only [Act.put, List.foldl_cons, List.foldl_nil, List.setIfInBounds_toArray, List.set_cons_zero, List.set_cons_succ]
        refine Gd.WT_take 6 (v := ?_) (by simp only [List.getElem?_toArray, List.getElem?_cons_succ, List.getElem?_cons_zero]; rfl) (Or.inl ⟨by rfl, ?_⟩) (by assumption) ?_
        rotate_left
        · ((intro w hSw; (try dsimp only at hSw); go_simp); (try with_reducible rfl))
        try simp only [Act.put, List.foldl_cons, List.foldl_nil, List.setIfInBounds_toArray, List.set_cons_zero, List.set_cons_succ]
        refine Gd.WT_take 7 (v := ?_) (by simp only [List.getElem?_toArray, List.getElem?_cons_succ, List.getElem?_cons_zero]; rfl) (Or.inl ⟨by rfl, ?_⟩) (by assumption) ?_
        rotate_left
        · ((intro w hSw; (try dsimp only at hSw); go_simp); (try with_reducible rfl))
        try simp only [Act.put, List.foldl_cons, List.foldl_nil, List.setIfInBounds_toArray, List.set_cons_zero, List.set_cons_succ]
        refine Gd.WT_take 8 (v := ?_) (by simp only [List.getElem?_toArray, List.getElem?_cons_succ, List.getElem?_cons_zero]; rfl) (Or.inl ⟨by rfl, ?_⟩) (by assumption) ?_
        rotate_left
        · ((intro w hSw; (try dsimp only at hSw); go_simp); (try with_reducible rfl))
        try simp only [Act.put, List.foldl_cons, List.foldl_nil, List.setIfInBounds_toArray, List.set_cons_zero, List.set_cons_succ]
        refine Gd.WT_take 9 (v := ?_) (by simp only [List.getElem?_toArray, List.getElem?_cons_succ, List.getElem?_cons_zero]; rfl) (Or.inl ⟨by rfl, ?_⟩) (by assumption) ?_
        rotate_left
        · ((intro w hSw; (try dsimp only at hSw); go_simp); (try with_reducible rfl))
        try simp only [Act.put, List.foldl_cons, List.foldl_nil, List.setIfInBounds_toArray, List.set_cons_zero, List.set_cons_succ]
        refine Gd.WT_call 10 (by simp only [List.getElem?_toArray, List.getElem?_cons_succ, List.getElem?_cons_zero]; rfl) (by as_aux_lemma => kernel_rfl) (fun K hK => ?_)
        go_simp
        have hal := below_alloc (Below.refl wd.heap.size wd) (.cells #[.string s] 9)
        have hnew := heap_new wd (.cells #[.string s] 9)
        have HLe := Lib.hid (HLd.out.trans (hal.mono HLd.out.size))
        have HE1 := Lib.hid ((hal.cell (World.block_lt_of_cell? wd _ HD1.out)).trans HD1.out)
        generalize wd.alloc (.cells #[.string s] 9) = we at hnew HLe HE1  ⊢
        have HN := Lib.hid hnew
        clear hal hnew HLd HD1
        refine hK.out _ _ ?_ (fun hHeld => ?_)
        · exact ⟨HE1.out, HLe.out⟩
        clear hK K
        try simp only [Act.put, List.foldl_cons, List.foldl_nil, List.setIfInBounds_toArray, List.set_cons_zero, List.set_cons_succ]
        refine Gd.WT_call 11 (by simp only [List.getElem?_toArray, List.getElem?_cons_succ, List.getElem?_cons_zero]; rfl) (by as_aux_lemma => kernel_rfl) (fun K hK => ?_)
        go_simp
        (go_at_call 22; with_reducible refine (clean_one _ s we HSZ.out HN.out).mono ?_)
        rintro e wf ⟨B2, rfl, hB2, rfl⟩
        have HB2 := Lib.hid hB2
        clear hB2
        go_simp
        refine hK.out _ _ ?_ (fun hHeld => ?_)
        · exact ⟨HE1.out, HLe.out⟩
        clear hK K
        try simp only [Act.put, List.foldl_cons, List.foldl_nil, List.setIfInBounds_toArray, List.set_cons_zero, List.set_cons_succ]
        have HLx := HLe
        refine Gd.WT_take 12 (v := ?_) (by simp only [List.getElem?_toArray, List.getElem?_cons_succ, List.getElem?_cons_zero]; rfl) (Or.inl ⟨by rfl, ?_⟩) (by assumption) ?_
        rotate_left
        · ((intro w hSw; (try dsimp only at hSw); go_simp); (try with_reducible rfl))
        try simp only [Act.put, List.foldl_cons, List.foldl_nil, List.setIfInBounds_toArray, List.set_cons_zero, List.set_cons_succ]
        cases B2
        · refine Gd.WT_passes (by assumption) 13 [some true, some true, none, none, none, none, none, none, none, none, none, none, none, none, none, none, none, none, none, none, none, none, none, none, none, none, none, none, none, none, none, some true] [(some 24, .bool true), (some 25, .bool true), (some 26, undef), (some 27, undef), (some 28, undef), (some 29, undef), (some 30, undef), (some 31, undef), (some 32, undef), (some 33, undef), (some 34, undef), (some 35, undef), (some 36, undef), (some 37, undef), (some 38, undef), (some 39, undef), (some 40, undef), (some 41, undef), (some 42, undef), (some 43, undef), (some 44, undef), (some 45, undef), (some 46, undef), (some 47, undef), (some 48, undef), (some 49, undef), (some 50, undef), (some 51, undef), (some 52, undef), (some 53, undef), (some 54, undef), (some 55, .bool true)] 45 _ (by kernel_rfl) (by kernel_rfl) rfl ?_
          simp only [Act.put, List.foldl_cons, List.foldl_nil, List.setIfInBounds_toArray, List.set_cons_zero, List.set_cons_succ]
          refine Gd.WT_end (by exact Nat.le_refl 45) ?_
          go_wp2_with fail
          go_ret
          refine ⟨false, rfl, ⟨by simp, fun h => ?_⟩, HLx.out⟩
          have ok := h.2 k hlt
          unfold OkAt at ok
          rw [HSK.out] at ok
          have o1 := HB2.out.2 ok.2.1; cases o1
        refine Gd.WT_passes (by assumption) 13 [some false, some false] [(some 24, .bool false), (some 25, .bool false)] 15 _ (by kernel_rfl) (by kernel_rfl) rfl ?_
        simp only [Act.put, List.foldl_cons, List.foldl_nil, List.setIfInBounds_toArray, List.set_cons_zero, List.set_cons_succ]
        refine Gd.WT_take 15 (v := ?_) (by simp only [List.getElem?_toArray, List.getElem?_cons_succ, List.getElem?_cons_zero]; rfl) (Or.inl ⟨by rfl, ?_⟩) (by assumption) ?_
        rotate_left
        · ((intro w hSw; (try dsimp only at hSw); go_simp); (try with_reducible rfl))
        try simp only [Act.put, List.foldl_cons, List.foldl_nil, List.setIfInBounds_toArray, List.set_cons_zero, List.set_cons_succ]
        refine Gd.WT_take 16 (v := ?_) (by simp only [List.getElem?_toArray, List.getElem?_cons_succ, List.getElem?_cons_zero]; rfl) (Or.inl ⟨by rfl, ?_⟩) (by assumption) ?_
        rotate_left
        · ((intro w hSw; (try dsimp only at hSw); go_simp); (try with_reducible rfl))
        try simp only [Act.put, List.foldl_cons, List.foldl_nil, List.setIfInBounds_toArray, List.set_cons_zero, List.set_cons_succ]
        refine Gd.WT_passes (by assumption) 17 [some false, none, none, none, none, none, none, none, none, none, none, none, none, none, none, none, none, none, none, none, none, none, none, none, none, none, some false, some false] [(some 28, .bool false), (some 29, undef), (some 30, undef), (some 31, undef), (some 32, undef), (some 33, undef), (some 34, undef), (some 35, undef), (some 36, undef), (some 37, undef), (some 38, undef), (some 39, undef), (some 40, undef), (some 41, undef), (some 42, undef), (some 43, undef), (some 44, undef), (some 45, undef), (some 46, undef), (some 47, undef), (some 48, undef), (some 49, undef), (some 50, undef), (some 51, undef), (some 52, undef), (some 53, undef), (some 54, .bool false), (some 55, .bool false)] 45 _ (by kernel_rfl) (by kernel_rfl) rfl ?_
        simp only [Act.put, List.foldl_cons, List.foldl_nil, List.setIfInBounds_toArray, List.set_cons_zero, List.set_cons_succ]
        refine Gd.WT_end (by exact Nat.le_refl 45) ?_
        go_wp2_with fail
        refine ⟨⟨k + 1, by omega, by go_num, Lib.hid (upto_succ hall.out ⟨by rw [HSK.out]; exact HB1.out, by rw [HSK.out]; exact HB2.out.1 rfl, fun h => absurd h (by have := HK0.out; omega)⟩), HLx.out⟩, by simp [intOf]; omega⟩
      · have hg1 : decide ((0 : Int) < (k : Int)) = true := decide_eq_true (by omega)
        have hg2 : decide (0 < k) = true := decide_eq_true (by omega)
        obtain ⟨m, HM⟩ : ∃ m, Hid (m + 1 = k) := ⟨k - 1, Lib.hid (by omega)⟩
        have hsub : (k : Int) - 1 = (m : Int) := by have := HM.out; omega
        have hwm : IntKind.i64.wrap (m : Int) = (m : Int) := IntWalk.i64_in _ (by have := HM.out; omega)
        have hmr : m ≤ 2147483647 := by have := HM.out; omega
        have hml : m < xs.length := by have := HM.out; omega
        have HD2 := Lib.hid (HKd.out m HM.out)
        obtain ⟨t, ht⟩ : ∃ t, kAt xs m = t := ⟨_, rfl⟩
        rw [ht] at HD2
        have HTK : Hid (kAt xs (k - 1) = t) := Lib.hid (by rw [← HM.out]; exact ht)
        obtain ⟨B3, hB3⟩ : ∃ B3 : Bool, Op.bytesLess s.toList t.toList = B3 := ⟨_, rfl⟩
        obtain ⟨B4, hB4⟩ : ∃ B4 : Bool, (s.toList == t.toList) = B4 := ⟨_, rfl⟩
        have HB3 := Lib.hid hB3
        have HB4 := Lib.hid hB4
        clear hk0 HKd ht
        refine ⟨(fun w' : World => w'.cell? (ad.add k) = some (.string s) ∧ w'.cell? (ad.add m) = some (.string t) ∧ Below w.heap.size w w'), ⟨HD1.out, HD2.out, HLd.out⟩, fun hHeld => ?_⟩
        refine Gd.WT_take 0 (v := ?_) (by simp only [List.getElem?_toArray, List.getElem?_cons_succ, List.getElem?_cons_zero]; rfl) (Or.inl ⟨by rfl, ?_⟩) (by assumption) ?_
        rotate_left
        · ((intro w hSw; (try dsimp only at hSw); go_simp); (try with_reducible rfl))
        try simp only [Act.put, List.foldl_cons, List.foldl_nil, List.setIfInBounds_toArray, List.set_cons_zero, List.set_cons_succ]
        refine Gd.WT_take 1 (v := ?_) (by simp only [List.getElem?_toArray, List.getElem?_cons_succ, List.getElem?_cons_zero]; rfl) (Or.inl ⟨by rfl, ?_⟩) (by assumption) ?_
        rotate_left
        · ((intro w hSw; (try dsimp only at hSw); go_simp); (try with_reducible rfl))
        try simp only [Act.put, List.foldl_cons, List.foldl_nil, List.setIfInBounds_toArray, List.set_cons_zero, List.set_cons_succ]
        refine Gd.WT_take 2 (v := ?_) (by simp only [List.getElem?_toArray, List.getElem?_cons_succ, List.getElem?_cons_zero]; rfl) (Or.inl ⟨by rfl, ?_⟩) (by assumption) ?_
        rotate_left
        · ((intro w hSw; (try dsimp only at hSw); go_simp); (try with_reducible rfl))
        try simp only [Act.put, List.foldl_cons, List.foldl_nil, List.setIfInBounds_toArray, List.set_cons_zero, List.set_cons_succ]
        refine Gd.WT_take 3 (v := ?_) (by simp only [List.getElem?_toArray, List.getElem?_cons_succ, List.getElem?_cons_zero]; rfl) (Or.inl ⟨by rfl, ?_⟩) (by assumption) ?_
        rotate_left
        · ((intro w hSw; (try dsimp only at hSw); go_simp); (try with_reducible rfl))
        try simp only [Act.put, List.foldl_cons, List.foldl_nil, List.setIfInBounds_toArray, List.set_cons_zero, List.set_cons_succ]
        refine Gd.WT_take 4 (v := ?_) (by simp only [List.getElem?_toArray, List.getElem?_cons_succ, List.getElem?_cons_zero]; rfl) (Or.inl ⟨by rfl, ?_⟩) (by assumption) ?_
        rotate_left
        · ((intro w hSw; (try dsimp only at hSw); go_simp); (try with_reducible rfl))
        try simp only [Act.put, List.foldl_cons, List.foldl_nil, List.setIfInBounds_toArray, List.set_cons_zero, List.set_cons_succ]
        cases B1
        rotate_left
        · have HLx := HLd
          refine Gd.WT_take 5 (v := ?_) (by simp only [List.getElem?_toArray, List.getElem?_cons_succ, List.getElem?_cons_zero]; rfl) (Or.inl ⟨by rfl, ?_⟩) (by assumption) ?_
          rotate_left
          · ((intro w hSw; (try dsimp only at hSw); go_simp); (try with_reducible rfl))
          try simp only [Act.put, List.foldl_cons, List.foldl_nil, List.setIfInBounds_toArray, List.set_cons_zero, List.set_cons_succ]
          refine Gd.WT_passes (by assumption) 6 [none, none, none, none, none, none, none, some true, some true, none, none, none, none, none, none, none, none, none, none, none, none, none, none, none, none, none, none, none, none, none, none, none, none, none, none, none, none, none, some true] [(some 17, undef), (some 18, undef), (some 19, undef), (some 20, undef), (some 21, undef), (some 22, undef), (some 23, undef), (some 24, .bool true), (some 25, .bool true), (some 26, undef), (some 27, undef), (some 28, undef), (some 29, undef), (some 30, undef), (some 31, undef), (some 32, undef), (some 33, undef), (some 34, undef), (some 35, undef), (some 36, undef), (some 37, undef), (some 38, undef), (some 39, undef), (some 40, undef), (some 41, undef), (some 42, undef), (some 43, undef), (some 44, undef), (some 45, undef), (some 46, undef), (some 47, undef), (some 48, undef), (some 49, undef), (some 50, undef), (some 51, undef), (some 52, undef), (some 53, undef), (some 54, undef), (some 55, .bool true)] 45 _ (by kernel_rfl) (by kernel_rfl) rfl ?_
          simp only [Act.put, List.foldl_cons, List.foldl_nil, List.setIfInBounds_toArray, List.set_cons_zero, List.set_cons_succ]
          refine Gd.WT_end (by exact Nat.le_refl 45) ?_
          go_wp2_with fail
          go_ret
          refine ⟨false, rfl, ⟨by simp, fun h => ?_⟩, HLx.out⟩
          have ok := h.2 k hlt
          unfold OkAt at ok
          rw [HSK.out] at ok
          have o1 := ok.1; rw [HB1.out] at o1; cases o1
        refine Gd.WT_take 5 (v := ?_) (by simp only [List.getElem?_toArray, List.getElem?_cons_succ, List.getElem?_cons_zero]; rfl) (Or.inl ⟨by rfl, ?_⟩) (by assumption) ?_
        rotate_left
        · ((intro w hSw; (try dsimp only at hSw); go_simp); (try with_reducible rfl))
        try simp only [Act.put, List.foldl_cons, List.foldl_nil, List.setIfInBounds_toArray, List.set_cons_zero, List.set_cons_succ]
        refine Gd.WT_take 6 (v := ?_) (by simp only [List.getElem?_toArray, List.getElem?_cons_succ, List.getElem?_cons_zero]; rfl) (Or.inl ⟨by rfl, ?_⟩) (by assumption) ?_
        rotate_left
        · ((intro w hSw; (try dsimp only at hSw); go_simp); (try with_reducible rfl))
        try simp only [Act.put, List.foldl_cons, List.foldl_nil, List.setIfInBounds_toArray, List.set_cons_zero, List.set_cons_succ]
        refine Gd.WT_take 7 (v := ?_) (by simp only [List.getElem?_toArray, List.getElem?_cons_succ, List.getElem?_cons_zero]; rfl) (Or.inl ⟨by rfl, ?_⟩) (by assumption) ?_
        rotate_left
        · ((intro w hSw; (try dsimp only at hSw); go_simp); (try with_reducible rfl))
        try simp only [Act.put, List.foldl_cons, List.foldl_nil, List.setIfInBounds_toArray, List.set_cons_zero, List.set_cons_succ]
        refine Gd.WT_take 8 (v := ?_) (by simp only [List.getElem?_toArray, List.getElem?_cons_succ, List.getElem?_cons_zero]; rfl) (Or.inl ⟨by rfl, ?_⟩) (by assumption) ?_
        rotate_left
        · ((intro w hSw; (try dsimp only at hSw); go_simp); (try with_reducible rfl))
        try simp only [Act.put, List.foldl_cons, List.foldl_nil, List.setIfInBounds_toArray, List.set_cons_zero, List.set_cons_succ]
        refine Gd.WT_take 9 (v := ?_) (by simp only [List.getElem?_toArray, List.getElem?_cons_succ, List.getElem?_cons_zero]; rfl) (Or.inl ⟨by rfl, ?_⟩) (by assumption) ?_
        rotate_left
        · ((intro w hSw; (try dsimp only at hSw); go_simp); (try with_reducible rfl))
        try simp only [Act.put, List.foldl_cons, List.foldl_nil, List.setIfInBounds_toArray, List.set_cons_zero, List.set_cons_succ]
        refine Gd.WT_call 10 (by simp only [List.getElem?_toArray, List.getElem?_cons_succ, List.getElem?_cons_zero]; rfl) (by as_aux_lemma => kernel_rfl) (fun K hK => ?_)
        go_simp
        have hal := below_alloc (Below.refl wd.heap.size wd) (.cells #[.string s] 9)
        have hnew := heap_new wd (.cells #[.string s] 9)
        have HLe := Lib.hid (HLd.out.trans (hal.mono HLd.out.size))
        have HE1 := Lib.hid ((hal.cell (World.block_lt_of_cell? wd _ HD1.out)).trans HD1.out)
        have HE2 := Lib.hid ((hal.cell (World.block_lt_of_cell? wd _ HD2.out)).trans HD2.out)
        generalize wd.alloc (.cells #[.string s] 9) = we at hnew HLe HE1 HE2 ⊢
        have HN := Lib.hid hnew
        clear hal hnew HLd HD1 HD2
        refine hK.out _ _ ?_ (fun hHeld => ?_)
        · exact ⟨HE1.out, HE2.out, HLe.out⟩
        clear hK K
        try simp only [Act.put, List.foldl_cons, List.foldl_nil, List.setIfInBounds_toArray, List.set_cons_zero, List.set_cons_succ]
        refine Gd.WT_call 11 (by simp only [List.getElem?_toArray, List.getElem?_cons_succ, List.getElem?_cons_zero]; rfl) (by as_aux_lemma => kernel_rfl) (fun K hK => ?_)
        go_simp
        (go_at_call 22; with_reducible refine (clean_one _ s we HSZ.out HN.out).mono ?_)
        rintro e wf ⟨B2, rfl, hB2, rfl⟩
        have HB2 := Lib.hid hB2
        clear hB2
        go_simp
        refine hK.out _ _ ?_ (fun hHeld => ?_)
        · exact ⟨HE1.out, HE2.out, HLe.out⟩
        clear hK K
        try simp only [Act.put, List.foldl_cons, List.foldl_nil, List.setIfInBounds_toArray, List.set_cons_zero, List.set_cons_succ]
        have HLx := HLe
        refine Gd.WT_take 12 (v := ?_) (by simp only [List.getElem?_toArray, List.getElem?_cons_succ, List.getElem?_cons_zero]; rfl) (Or.inl ⟨by rfl, ?_⟩) (by assumption) ?_
        rotate_left
        · ((intro w hSw; (try dsimp only at hSw); go_simp); (try with_reducible rfl))
        try simp only [Act.put, List.foldl_cons, List.foldl_nil, List.setIfInBounds_toArray, List.set_cons_zero, List.set_cons_succ]
        cases B2
        · refine Gd.WT_passes (by assumption) 13 [some true, some true, none, none, none, none, none, none, none, none, none, none, none, none, none, none, none, none, none, none, none, none, none, none, none, none, none, none, none, none, none, some true] [(some 24, .bool true), (some 25, .bool true), (some 26, undef), (some 27, undef), (some 28, undef), (some 29, undef), (some 30, undef), (some 31, undef), (some 32, undef), (some 33, undef), (some 34, undef), (some 35, undef), (some 36, undef), (some 37, undef), (some 38, undef), (some 39, undef), (some 40, undef), (some 41, undef), (some 42, undef), (some 43, undef), (some 44, undef), (some 45, undef), (some 46, undef), (some 47, undef), (some 48, undef), (some 49, undef), (some 50, undef), (some 51, undef), (some 52, undef), (some 53, undef), (some 54, undef), (some 55, .bool true)] 45 _ (by kernel_rfl) (by kernel_rfl) rfl ?_
          simp only [Act.put, List.foldl_cons, List.foldl_nil, List.setIfInBounds_toArray, List.set_cons_zero, List.set_cons_succ]
          refine Gd.WT_end (by exact Nat.le_refl 45) ?_
          go_wp2_with fail
          go_ret
          refine ⟨false, rfl, ⟨by simp, fun h => ?_⟩, HLx.out⟩
          have ok := h.2 k hlt
          unfold OkAt at ok
          rw [HSK.out] at ok
          have o1 := HB2.out.2 ok.2.1; cases o1
        refine Gd.WT_passes (by assumption) 13 [some false, some false] [(some 24, .bool false), (some 25, .bool false)] 15 _ (by kernel_rfl) (by kernel_rfl) rfl ?_
        simp only [Act.put, List.foldl_cons, List.foldl_nil, List.setIfInBounds_toArray, List.set_cons_zero, List.set_cons_succ]
        refine Gd.WT_take 15 (v := ?_) (by simp only [List.getElem?_toArray, List.getElem?_cons_succ, List.getElem?_cons_zero]; rfl) (Or.inl ⟨by rfl, ?_⟩) (by assumption) ?_
        rotate_left
        · ((intro w hSw; (try dsimp only at hSw); go_simp); (try with_reducible rfl))
        try simp only [Act.put, List.foldl_cons, List.foldl_nil, List.setIfInBounds_toArray, List.set_cons_zero, List.set_cons_succ]
        refine Gd.WT_take 16 (v := ?_) (by simp only [List.getElem?_toArray, List.getElem?_cons_succ, List.getElem?_cons_zero]; rfl) (Or.inl ⟨by rfl, ?_⟩) (by assumption) ?_
        rotate_left
        · ((intro w hSw; (try dsimp only at hSw); go_simp); (try with_reducible rfl))
        try simp only [Act.put, List.foldl_cons, List.foldl_nil, List.setIfInBounds_toArray, List.set_cons_zero, List.set_cons_succ]
        refine Gd.WT_passes (by assumption) 17 [some true] [(some 28, .bool true)] 18 _ (by kernel_rfl) (by kernel_rfl) rfl ?_
        simp only [Act.put, List.foldl_cons, List.foldl_nil, List.setIfInBounds_toArray, List.set_cons_zero, List.set_cons_succ]
        refine Gd.WT_take 18 (v := ?_) (by simp only [List.getElem?_toArray, List.getElem?_cons_succ, List.getElem?_cons_zero]; rfl) (Or.inl ⟨by rfl, ?_⟩) (by assumption) ?_
        rotate_left
        · ((intro w hSw; (try dsimp only at hSw); go_simp); (try with_reducible rfl))
        try simp only [Act.put, List.foldl_cons, List.foldl_nil, List.setIfInBounds_toArray, List.set_cons_zero, List.set_cons_succ]
        refine Gd.WT_take 19 (v := ?_) (by simp only [List.getElem?_toArray, List.getElem?_cons_succ, List.getElem?_cons_zero]; rfl) (Or.inl ⟨by rfl, ?_⟩) (by assumption) ?_
        rotate_left
        · ((intro w hSw; (try dsimp only at hSw); go_simp); (try with_reducible rfl))
        try simp only [Act.put, List.foldl_cons, List.foldl_nil, List.setIfInBounds_toArray, List.set_cons_zero, List.set_cons_succ]
        refine Gd.WT_take 20 (v := ?_) (by simp only [List.getElem?_toArray, List.getElem?_cons_succ, List.getElem?_cons_zero]; rfl) (Or.inl ⟨by rfl, ?_⟩) (by assumption) ?_
        rotate_left
        · ((intro w hSw; (try dsimp only at hSw); go_simp); (try with_reducible rfl))
        try simp only [Act.put, List.foldl_cons, List.foldl_nil, List.setIfInBounds_toArray, List.set_cons_zero, List.set_cons_succ]
        refine Gd.WT_take 21 (v := ?_) (by simp only [List.getElem?_toArray, List.getElem?_cons_succ, List.getElem?_cons_zero]; rfl) (Or.inl ⟨by rfl, ?_⟩) (by assumption) ?_
        rotate_left
        · ((intro w hSw; (try dsimp only at hSw); go_simp); (try with_reducible rfl))
        try simp only [Act.put, List.foldl_cons, List.foldl_nil, List.setIfInBounds_toArray, List.set_cons_zero, List.set_cons_succ]
        refine Gd.WT_take 22 (v := ?_) (by simp only [List.getElem?_toArray, List.getElem?_cons_succ, List.getElem?_cons_zero]; rfl) (Or.inl ⟨by rfl, ?_⟩) (by assumption) ?_
        rotate_left
        · ((intro w hSw; (try dsimp only at hSw); go_simp); (try with_reducible rfl))
        try simp only [Act.put, List.foldl_cons, List.foldl_nil, List.setIfInBounds_toArray, List.set_cons_zero, List.set_cons_succ]
        refine Gd.WT_take 23 (v := ?_) (by simp only [List.getElem?_toArray, List.getElem?_cons_succ, List.getElem?_cons_zero]; rfl) (Or.inl ⟨by rfl, ?_⟩) (by assumption) ?_
        rotate_left
        · ((intro w hSw; (try dsimp only at hSw); go_simp); (try with_reducible rfl))
        try simp only [Act.put, List.foldl_cons, List.foldl_nil, List.setIfInBounds_toArray, List.set_cons_zero, List.set_cons_succ]
        refine Gd.WT_take 24 (v := ?_) (by simp only [List.getElem?_toArray, List.getElem?_cons_succ, List.getElem?_cons_zero]; rfl) (Or.inl ⟨by rfl, ?_⟩) (by assumption) ?_
        rotate_left
        · ((intro w hSw; (try dsimp only at hSw); go_simp); (try with_reducible rfl))
        try simp only [Act.put, List.foldl_cons, List.foldl_nil, List.setIfInBounds_toArray, List.set_cons_zero, List.set_cons_succ]
        refine Gd.WT_take 25 (v := ?_) (by simp only [List.getElem?_toArray, List.getElem?_cons_succ, List.getElem?_cons_zero]; rfl) (Or.inl ⟨by rfl, ?_⟩) (by assumption) ?_
        rotate_left
        · ((intro w hSw; (try dsimp only at hSw); go_simp); (try with_reducible rfl))
        try simp only [Act.put, List.foldl_cons, List.foldl_nil, List.setIfInBounds_toArray, List.set_cons_zero, List.set_cons_succ]
        refine Gd.WT_take 26 (v := ?_) (by simp only [List.getElem?_toArray, List.getElem?_cons_succ, List.getElem?_cons_zero]; rfl) (Or.inl ⟨by rfl, ?_⟩) (by assumption) ?_
        rotate_left
        · ((intro w hSw; (try dsimp only at hSw); go_simp); (try with_reducible rfl))
        try simp only [Act.put, List.foldl_cons, List.foldl_nil, List.setIfInBounds_toArray, List.set_cons_zero, List.set_cons_succ]
        refine Gd.WT_take 27 (v := ?_) (by simp only [List.getElem?_toArray, List.getElem?_cons_succ, List.getElem?_cons_zero]; rfl) (Or.inl ⟨by rfl, ?_⟩) (by assumption) ?_
        rotate_left
        · ((intro w hSw; (try dsimp only at hSw); go_simp); (try with_reducible rfl))
        try simp only [Act.put, List.foldl_cons, List.foldl_nil, List.setIfInBounds_toArray, List.set_cons_zero, List.set_cons_succ]
        cases B3
        rotate_left
        · refine Gd.WT_passes (by assumption) 28 [some true, none, none, none, none, none, none, none, none, none, none, none, none, none, some true, some true, some true] [(some 39, .bool true), (some 40, undef), (some 41, undef), (some 42, undef), (some 43, undef), (some 44, undef), (some 45, undef), (some 46, undef), (some 47, undef), (some 48, undef), (some 49, undef), (some 50, undef), (some 51, undef), (some 52, undef), (some 53, .bool true), (some 54, .bool true), (some 55, .bool true)] 45 _ (by kernel_rfl) (by kernel_rfl) rfl ?_
          simp only [Act.put, List.foldl_cons, List.foldl_nil, List.setIfInBounds_toArray, List.set_cons_zero, List.set_cons_succ]
          refine Gd.WT_end (by exact Nat.le_refl 45) ?_
          go_wp2_with fail
          go_ret
          refine ⟨false, rfl, ⟨by simp, fun h => ?_⟩, HLx.out⟩
          have ok := h.2 k hlt
          unfold OkAt at ok
          rw [HSK.out, HTK.out] at ok
          have o1 := (ok.2.2 (by have := HM.out; omega)).1; unfold ltB at o1; rw [HB3.out] at o1; cases o1
        refine Gd.WT_passes (by assumption) 28 [some false] [(some 39, .bool false)] 29 _ (by kernel_rfl) (by kernel_rfl) rfl ?_
        simp only [Act.put, List.foldl_cons, List.foldl_nil, List.setIfInBounds_toArray, List.set_cons_zero, List.set_cons_succ]
        refine Gd.WT_take 29 (v := ?_) (by simp only [List.getElem?_toArray, List.getElem?_cons_succ, List.getElem?_cons_zero]; rfl) (Or.inl ⟨by rfl, ?_⟩) (by assumption) ?_
        rotate_left
        · ((intro w hSw; (try dsimp only at hSw); go_simp); (try with_reducible rfl))
        try simp only [Act.put, List.foldl_cons, List.foldl_nil, List.setIfInBounds_toArray, List.set_cons_zero, List.set_cons_succ]
        cases st
        · refine Gd.WT_passes (by assumption) 30 [some false, none, none, none, none, none, none, none, none, none, none, some false, some false, some false, some false] [(some 41, .bool false), (some 42, undef), (some 43, undef), (some 44, undef), (some 45, undef), (some 46, undef), (some 47, undef), (some 48, undef), (some 49, undef), (some 50, undef), (some 51, undef), (some 52, .bool false), (some 53, .bool false), (some 54, .bool false), (some 55, .bool false)] 45 _ (by kernel_rfl) (by kernel_rfl) rfl ?_
          simp only [Act.put, List.foldl_cons, List.foldl_nil, List.setIfInBounds_toArray, List.set_cons_zero, List.set_cons_succ]
          refine Gd.WT_end (by exact Nat.le_refl 45) ?_
          go_wp2_with fail
          refine ⟨⟨k + 1, by omega, by go_num, Lib.hid (upto_succ hall.out ⟨by rw [HSK.out]; exact HB1.out, by rw [HSK.out]; exact HB2.out.1 rfl, fun _ => ⟨by rw [HSK.out, HTK.out]; exact HB3.out, by simp⟩⟩), HLx.out⟩, by simp [intOf]; omega⟩
        refine Gd.WT_passes (by assumption) 30 [some true] [(some 41, .bool true)] 31 _ (by kernel_rfl) (by kernel_rfl) rfl ?_
        simp only [Act.put, List.foldl_cons, List.foldl_nil, List.setIfInBounds_toArray, List.set_cons_zero, List.set_cons_succ]
        refine Gd.WT_take 31 (v := ?_) (by simp only [List.getElem?_toArray, List.getElem?_cons_succ, List.getElem?_cons_zero]; rfl) (Or.inl ⟨by rfl, ?_⟩) (by assumption) ?_
        rotate_left
        · ((intro w hSw; (try dsimp only at hSw); go_simp); (try with_reducible rfl))
        try simp only [Act.put, List.foldl_cons, List.foldl_nil, List.setIfInBounds_toArray, List.set_cons_zero, List.set_cons_succ]
        refine Gd.WT_take 32 (v := ?_) (by simp only [List.getElem?_toArray, List.getElem?_cons_succ, List.getElem?_cons_zero]; rfl) (Or.inl ⟨by rfl, ?_⟩) (by assumption) ?_
        rotate_left
        · ((intro w hSw; (try dsimp only at hSw); go_simp); (try with_reducible rfl))
        try simp only [Act.put, List.foldl_cons, List.foldl_nil, List.setIfInBounds_toArray, List.set_cons_zero, List.set_cons_succ]
        refine Gd.WT_take 33 (v := ?_) (by simp only [List.getElem?_toArray, List.getElem?_cons_succ, List.getElem?_cons_zero]; rfl) (Or.inl ⟨by rfl, ?_⟩) (by assumption) ?_
        rotate_left
        · ((intro w hSw; (try dsimp only at hSw); go_simp); (try with_reducible rfl))
        try simp only [Act.put, List.foldl_cons, List.foldl_nil, List.setIfInBounds_toArray, List.set_cons_zero, List.set_cons_succ]
        refine Gd.WT_take 34 (v := ?_) (by simp only [List.getElem?_toArray, List.getElem?_cons_succ, List.getElem?_cons_zero]; rfl) (Or.inl ⟨by rfl, ?_⟩) (by assumption) ?_
        rotate_left
        · ((intro w hSw; (try dsimp only at hSw); go_simp); (try with_reducible rfl))
        try simp only [Act.put, List.foldl_cons, List.foldl_nil, List.setIfInBounds_toArray, List.set_cons_zero, List.set_cons_succ]
        refine Gd.WT_take 35 (v := ?_) (by simp only [List.getElem?_toArray, List.getElem?_cons_succ, List.getElem?_cons_zero]; rfl) (Or.inl ⟨by rfl, ?_⟩) (by assumption) ?_
        rotate_left
        · ((intro w hSw; (try dsimp only at hSw); go_simp); (try with_reducible rfl))
        try simp only [Act.put, List.foldl_cons, List.foldl_nil, List.setIfInBounds_toArray, List.set_cons_zero, List.set_cons_succ]
        refine Gd.WT_take 36 (v := ?_) (by simp only [List.getElem?_toArray, List.getElem?_cons_succ, List.getElem?_cons_zero]; rfl) (Or.inl ⟨by rfl, ?_⟩) (by assumption) ?_
        rotate_left
        · ((intro w hSw; (try dsimp only at hSw); go_simp); (try with_reducible rfl))
        try simp only [Act.put, List.foldl_cons, List.foldl_nil, List.setIfInBounds_toArray, List.set_cons_zero, List.set_cons_succ]
        refine Gd.WT_take 37 (v := ?_) (by simp only [List.getElem?_toArray, List.getElem?_cons_succ, List.getElem?_cons_zero]; rfl) (Or.inl ⟨by rfl, ?_⟩) (by assumption) ?_
        rotate_left
        · ((intro w hSw; (try dsimp only at hSw); go_simp); (try with_reducible rfl))
        try simp only [Act.put, List.foldl_cons, List.foldl_nil, List.setIfInBounds_toArray, List.set_cons_zero, List.set_cons_succ]
        refine Gd.WT_take 38 (v := ?_) (by simp only [List.getElem?_toArray, List.getElem?_cons_succ, List.getElem?_cons_zero]; rfl) (Or.inl ⟨by rfl, ?_⟩) (by assumption) ?_
        rotate_left
        · ((intro w hSw; (try dsimp only at hSw); go_simp); (try with_reducible rfl))
        try simp only [Act.put, List.foldl_cons, List.foldl_nil, List.setIfInBounds_toArray, List.set_cons_zero, List.set_cons_succ]
        refine Gd.WT_take 39 (v := ?_) (by simp only [List.getElem?_toArray, List.getElem?_cons_succ, List.getElem?_cons_zero]; rfl) (Or.inl ⟨by rfl, ?_⟩) (by assumption) ?_
        rotate_left
        · ((intro w hSw; (try dsimp only at hSw); go_simp); (try with_reducible rfl))
        try simp only [Act.put, List.foldl_cons, List.foldl_nil, List.setIfInBounds_toArray, List.set_cons_zero, List.set_cons_succ]
        refine Gd.WT_take 40 (v := ?_) (by simp only [List.getElem?_toArray, List.getElem?_cons_succ, List.getElem?_cons_zero]; rfl) (Or.inl ⟨by rfl, ?_⟩) (by assumption) ?_
        rotate_left
        · ((intro w hSw; (try dsimp only at hSw); go_simp); (try with_reducible rfl))
        try simp only [Act.put, List.foldl_cons, List.foldl_nil, List.setIfInBounds_toArray, List.set_cons_zero, List.set_cons_succ]
        cases B4
        rotate_left
        · refine Gd.WT_passes (by assumption) 41 [some true, some true, some true, some true] [(some 52, .bool true), (some 53, .bool true), (some 54, .bool true), (some 55, .bool true)] 45 _ (by kernel_rfl) (by kernel_rfl) rfl ?_
          simp only [Act.put, List.foldl_cons, List.foldl_nil, List.setIfInBounds_toArray, List.set_cons_zero, List.set_cons_succ]
          refine Gd.WT_end (by exact Nat.le_refl 45) ?_
          go_wp2_with fail
          go_ret
          refine ⟨false, rfl, ⟨by simp, fun h => ?_⟩, HLx.out⟩
          have ok := h.2 k hlt
          unfold OkAt at ok
          rw [HSK.out, HTK.out] at ok
          have o1 := (ok.2.2 (by have := HM.out; omega)).2 rfl; rw [HB4.out] at o1; cases o1
        refine Gd.WT_passes (by assumption) 41 [some false, some false, some false, some false] [(some 52, .bool false), (some 53, .bool false), (some 54, .bool false), (some 55, .bool false)] 45 _ (by kernel_rfl) (by kernel_rfl) rfl ?_
        simp only [Act.put, List.foldl_cons, List.foldl_nil, List.setIfInBounds_toArray, List.set_cons_zero, List.set_cons_succ]
        refine Gd.WT_end (by exact Nat.le_refl 45) ?_
        go_wp2_with fail
        refine ⟨⟨k + 1, by omega, by go_num, Lib.hid (upto_succ hall.out ⟨by rw [HSK.out]; exact HB1.out, by rw [HSK.out]; exact HB2.out.1 rfl, fun _ => ⟨by rw [HSK.out, HTK.out]; exact HB3.out, fun _ => by rw [HSK.out, HTK.out]; exact HB4.out⟩⟩), HLx.out⟩, by simp [intOf]; omega⟩
    · go_wp2_with fail
      go_ret
      obtain rfl : k = xs.length := by omega
      refine ⟨_, rfl, ⟨fun h => ⟨?_, hall.out⟩, fun h => ?_⟩, hbel⟩
      · rintro rfl
        simp at h
      · have := List.length_pos_iff.2 h.1
        simp
        omega
end Go.Proofs.Ytjifoimkjgepcaa.Da
