/-
  The walk of laws.FnSentencesTwo.
-/
import Derived.Test.YtaniafohcaiedaaDoorSr
import Derived.Test.YtaniafohcaiedaaDoorHasI32
import Derived.Test.YtaniafohcaiedaaDoorCu
import Derived.Test.YtaniafohcaiedaaDoorGd
import Derived.Test.YtaniafohcaiedaaDoorTy
set_option linter.unusedVariables false
set_option linter.unusedSimpArgs false
namespace Go.Proofs.YtaniafohcaiedaaDoor.Sn
open Go.RowKit Go.Proofs.YtaniafohcaiedaaDoor.K Go.Proofs.YtaniafohcaiedaaDoorW.PrintWords

theorem runes_conv (s : ByteArray) (hs : s.size ≤ 2147483647) (W : World) : ∃ C, (rnL s.data.toList).length ≤ C ∧ C ≤ 9223372036854775807 ∧ (convert 9 46 (.string s)).run Tryd.prog W = .ok (.slice (some ⟨W.heap.size, 0, none⟩) (rnL s.data.toList).length C) ((W.alloc (.cells (((rnL s.data.toList).map (Value.int .i32)).toArray ++ Array.replicate (C - (rnL s.data.toList).length) (Value.int .i32 0)) 21)).drew) := by
  have h := run_runes_of_string (P := Tryd.prog) W 9 46 21 s Tryd.underlying9 Tryd.underlying46 Tryd.underlying21
  rw [runes_of] at h
  have hl := rnL_len _ s.data.toList (Nat.le_refl _)
  have hz : s.data.toList.length = s.size := data_length s
  have hsz : (((rnL s.data.toList).map (Value.int .i32)).toArray).size = (rnL s.data.toList).length := by simp
  rw [hsz] at h
  refine ⟨_, grownCap_ge _ _ _ _, ?_, h (by omega)⟩
  have := grownCap_le_maxLen W (rnL s.data.toList).length 0 21 (by simp only [maxLen]; omega)
  simpa [maxLen] using this
theorem runes_cell (R : List Int) (C : Nat) (W : World) (j : Nat) (hj : j < R.length) : ((W.alloc (.cells ((R.map (Value.int .i32)).toArray ++ Array.replicate (C - R.length) (Value.int .i32 0)) 21))).cell? ⟨W.heap.size, j, none⟩ = some (.int .i32 R[j]) := by
  rw [cell_of_heap (heap_new W _), Array.getElem?_append_left (by simpa using hj)]
  simp [hj]

theorem keepB7 {B : Nat} {w0 w1 : World} {g ga gb k : Nat} (hgB : g < B) {a b c d e x y : Value} {t : TypeId} (h0 : w0.heap[g]? = some (.cells #[a, b, c, d, e] t (0, 0))) (hx : w0.cell? ⟨ga, k, none⟩ = some x) (hy : w0.cell? ⟨gb, 0, none⟩ = some y) (hga : ga < B) (hgb : gb < B) (h : Hid (Below B w0 w1)) :
    w1.cell? ⟨g, 0, none⟩ = some a ∧ w1.cell? ⟨g, 1, none⟩ = some b ∧ w1.cell? ⟨g, 2, none⟩ = some c ∧ w1.cell? ⟨g, 3, none⟩ = some d ∧ w1.cell? ⟨g, 4, none⟩ = some e ∧ w1.cell? ⟨ga, k, none⟩ = some x ∧ w1.cell? ⟨gb, 0, none⟩ = some y ∧ Hid (Below B w0 w1) := by
  obtain ⟨h1, h2, h3, h4, h5⟩ := cells5 ((h.out.block g hgB).trans h0)
  exact ⟨h1, h2, h3, h4, h5, (h.out.cell hga).trans hx, (h.out.cell hgb).trans hy, h⟩

set_option maxHeartbeats 20000000 in
set_option maxRecDepth 5000 in
theorem two_walk (D F : Option Addr) (cd cf : Nat) (sk db : Bool) (most : Int) (dl fl : List Int) (s t : ByteArray) (hs0 : s.size ≤ 9223372036854775807) (ht0 : t.size ≤ 9223372036854775807) (w : World) (hD : (Kd.int .i32).C w D dl.length dl) (hF : (Kd.int .i32).C w F fl.length fl) (hT : Lib.Utf8Tabs 1 2 w) :
    Calls Tryd.prog 8 #[splV D F dl.length cd fl.length cf sk db most, .string s, .string t] w fun e w' => e = .returned (.bool true) ∧ Below w.heap.size w w' := by
  have hdm := hD.2.1
  have hfm := hF.2.1
  have HD := Lib.hid hD
  have HF := Lib.hid hF
  have HT := Lib.hid hT
  clear hD hF hT
  have HP := Lib.hid parts_any
  have HZ := Lib.hid (fun W => zzFits18_any D F dl.length cd fl.length cf sk db most W hdm hfm)
  show Calls _ _ #[.agg #[.slice D dl.length cd, .slice F fl.length cf, .bool sk, .bool db, .int .i64 most], .string s, .string t] w _
  go_enter Tryd.func8, Tryd.ntmps8
  have hg0 := heap_new w (.cells #[.slice D dl.length cd, .slice F fl.length cf, .bool sk, .bool db, .int .i64 most] 50)
  have hbw : Below w.heap.size w (w.alloc (.cells #[.slice D dl.length cd, .slice F fl.length cf, .bool sk, .bool db, .int .i64 most] 50)) := below_alloc (Below.refl _ _) _
  go_wp2_with fail
  generalize hW0 : w.alloc (.cells #[.slice D dl.length cd, .slice F fl.length cf, .bool sk, .bool db, .int .i64 most] 50) = wb at hg0 hbw ⊢
  have hz0 : w.heap.size < wb.heap.size := lt_of_heap hg0
  have H0 := Lib.hid hg0
  have HBW := Lib.hid hbw
  clear hW0 hg0 hbw
  refine (HZ.out wb).mono ?_
  rintro e w1 ⟨b, rfl, hb, hb1⟩
  have HB := Lib.hid hb
  have HW1 := Lib.hid (HBW.out.trans (hb1.mono (Nat.le_of_lt hz0)))
  have H1 := Lib.hid (blk_keep H0.out hb1)
  have hw1 := HW1.out.size
  have hz1 : w.heap.size < w1.heap.size := lt_of_heap H1.out
  clear hb hb1
  cases b
  · go_wp2_with fail
    go_ret
    exact ⟨by simp, HW1.out⟩
  obtain ⟨hdl, hfl⟩ := HB.out rfl
  by_cases hs : (2147483647 : Int) < s.size
  · go_wp2_with fail
    go_ret
    exact ⟨by simp, HW1.out⟩
  by_cases ht : (2147483647 : Int) < t.size
  · go_wp2_with fail
    go_ret
    exact ⟨by simp, HW1.out⟩
  obtain ⟨Ca, hCa, hCam, hcva⟩ := runes_conv s (by omega) w1
  have hba := (HW1.out.alloc hw1 (.cells (((rnL s.data.toList).map (Value.int .i32)).toArray ++ Array.replicate (Ca - (rnL s.data.toList).length) (Value.int .i32 0)) 21)).drew
  have hka : Below w1.heap.size w1 _ := ((Below.refl _ w1).alloc (Nat.le_refl _) (.cells (((rnL s.data.toList).map (Value.int .i32)).toArray ++ Array.replicate (Ca - (rnL s.data.toList).length) (Value.int .i32 0)) 21)).drew
  have hca : ∀ j (hj : j < (rnL s.data.toList).length), ((w1.alloc (.cells (((rnL s.data.toList).map (Value.int .i32)).toArray ++ Array.replicate (Ca - (rnL s.data.toList).length) (Value.int .i32 0)) 21)).drew).cell? ⟨w1.heap.size, j, none⟩ = some (.int .i32 (rnL s.data.toList)[j]) := fun j hj => runes_cell _ Ca w1 j hj
  generalize hWa : (w1.alloc (.cells (((rnL s.data.toList).map (Value.int .i32)).toArray ++ Array.replicate (Ca - (rnL s.data.toList).length) (Value.int .i32 0)) 21)).drew = wa at hcva hba hka hca
  obtain ⟨Cb, hCb, hCbm, hcvb⟩ := runes_conv t (by omega) wa
  have hbb := (hba.alloc hba.size (.cells (((rnL t.data.toList).map (Value.int .i32)).toArray ++ Array.replicate (Cb - (rnL t.data.toList).length) (Value.int .i32 0)) 21)).drew
  have hkb : Below wa.heap.size wa _ := ((Below.refl _ wa).alloc (Nat.le_refl _) (.cells (((rnL t.data.toList).map (Value.int .i32)).toArray ++ Array.replicate (Cb - (rnL t.data.toList).length) (Value.int .i32 0)) 21)).drew
  have hcb : ∀ j (hj : j < (rnL t.data.toList).length), ((wa.alloc (.cells (((rnL t.data.toList).map (Value.int .i32)).toArray ++ Array.replicate (Cb - (rnL t.data.toList).length) (Value.int .i32 0)) 21)).drew).cell? ⟨wa.heap.size, j, none⟩ = some (.int .i32 (rnL t.data.toList)[j]) := fun j hj => runes_cell _ Cb wa j hj
  generalize hWb : (wa.alloc (.cells (((rnL t.data.toList).map (Value.int .i32)).toArray ++ Array.replicate (Cb - (rnL t.data.toList).length) (Value.int .i32 0)) 21)).drew = w0 at hcvb hbb hkb hcb
  have hca0 : ∀ j (hj : j < (rnL s.data.toList).length), w0.cell? ⟨w1.heap.size, j, none⟩ = some (.int .i32 (rnL s.data.toList)[j]) := fun j hj => (hkb.cell (World.block_lt_of_cell? _ _ (hca j hj))).trans (hca j hj)
  have hg0 := blk_keep (blk_keep H1.out hka) hkb
  have hrla := rnL_len _ s.data.toList (Nat.le_refl _)
  have hrlb := rnL_len _ t.data.toList (Nat.le_refl _)
  have hzs : s.data.toList.length = s.size := data_length s
  have hzt : t.data.toList.length = t.size := data_length t
  rw [hzs] at hrla
  rw [hzt] at hrlb
  have H2 := Lib.hid hg0
  have HW2 := Lib.hid hbb
  have HCA := Lib.hid hca0
  have HCB := Lib.hid hcb
  clear hWa hWb hba hka hca hbb hkb hcb hca0 hg0 hzs hzt HBW H0 hz0 HZ HB
  go_upto_region 4 with fail
  obtain ⟨B1, hB1⟩ : ∃ B, splitsB dl fl most = B := ⟨_, rfl⟩
  obtain ⟨B2, hB2, hr1⟩ := readable_det s hs0
  obtain ⟨B3, hB3, hr2⟩ := readable_det t ht0
  have hw2 := HW2.out.size
  have hz2 : w.heap.size < w0.heap.size := lt_of_heap H2.out
  have hsp : ∀ W, Below w0.heap.size w0 W → _ := fun W hb => splits_det D F cd cf sk db most dl fl W (Kd.C_below HD.out (HW2.out.trans (hb.mono hw2))) (Kd.C_below HF.out (HW2.out.trans (hb.mono hw2))) hdl hfl
  rw [hB1] at hsp
  generalize hRA : rnL s.data.toList = RA at HCA hrla hCa ⊢
  generalize hRB : rnL t.data.toList = RB at HCB hrlb hCb ⊢
  generalize hLa : RA.length = La at hrla hCa ⊢
  generalize hLb : RB.length = Lb at hrlb hCb ⊢
  obtain ⟨ga, hga⟩ : ∃ ga, w1.heap.size = ga := ⟨_, rfl⟩
  obtain ⟨gb, hgb⟩ : ∃ gb, wa.heap.size = gb := ⟨_, rfl⟩
  rw [hga] at HCA ⊢
  rw [hgb] at HCB ⊢
  obtain ⟨dA, hdA⟩ : ∃ d, RA.getD (La - 1) 0 = d := ⟨_, rfl⟩
  obtain ⟨dB, hdB⟩ : ∃ d, RB.getD 0 0 = d := ⟨_, rfl⟩
  have hcA : 0 < La → w0.cell? ⟨ga, La - 1, none⟩ = some (.int .i32 dA) := by
    intro h
    rw [HCA.out (La - 1) (by omega), ← hdA]
    simp [List.getD, List.getElem?_eq_getElem (show La - 1 < RA.length by omega)]
  have hcB : 0 < Lb → w0.cell? ⟨gb, 0, none⟩ = some (.int .i32 dB) := by
    intro h
    rw [HCB.out 0 (by omega), ← hdB]
    simp [List.getD, List.getElem?_eq_getElem (show 0 < RB.length by omega)]
  obtain ⟨B4, hB4⟩ : ∃ B, memB dA dl = B := ⟨_, rfl⟩
  obtain ⟨B5, hB5⟩ : ∃ B, memB dB dl = B := ⟨_, rfl⟩
  obtain ⟨B6, hB6⟩ : ∃ B, memB dB fl = B := ⟨_, rfl⟩
  have hh1 : ∀ W, Below w0.heap.size w0 W → _ := fun W hb => hasI32_any D cd dl dA W (Kd.C_below HD.out (HW2.out.trans (hb.mono hw2)))
  have hh2 : ∀ W, Below w0.heap.size w0 W → _ := fun W hb => hasI32_any D cd dl dB W (Kd.C_below HD.out (HW2.out.trans (hb.mono hw2)))
  have hh3 : ∀ W, Below w0.heap.size w0 W → _ := fun W hb => hasI32_any F cf fl dB W (Kd.C_below HF.out (HW2.out.trans (hb.mono hw2)))
  rw [hB4] at hh1
  rw [hB5] at hh2
  rw [hB6] at hh3
  have HSP := Lib.hid hsp
  have HR1 := Lib.hid (fun W (_ : Below w0.heap.size w0 W) => hr1 W)
  have HR2 := Lib.hid (fun W (_ : Below w0.heap.size w0 W) => hr2 W)
  have HH1 := Lib.hid hh1
  have HH2 := Lib.hid hh2
  have HH3 := Lib.hid hh3
  have HB1 := Lib.hid hB1
  have HB2 := Lib.hid hB2
  have HB3 := Lib.hid hB3
  have HB4 := Lib.hid hB4
  have HB5 := Lib.hid hB5
  have HB6 := Lib.hid hB6
  have HDA := Lib.hid hdA
  have HDB := Lib.hid hdB
  have HRA := Lib.hid hRA
  have HRB := Lib.hid hRB
  have HLA := Lib.hid hLa
  have HLB := Lib.hid hLb
  have HcA := Lib.hid hcA
  have HcB := Lib.hid hcB
  have HGA := Lib.hid (show ga < w0.heap.size ∨ La = 0 by
    by_cases h : 0 < La
    · exact .inl (World.block_lt_of_cell? _ _ (hcA h))
    · exact .inr (by omega))
  have HGB := Lib.hid (show gb < w0.heap.size ∨ Lb = 0 by
    by_cases h : 0 < Lb
    · exact .inl (World.block_lt_of_cell? _ _ (hcB h))
    · exact .inr (by omega))
  clear hsp hr1 hr2 hh1 hh2 hh3 hB1 hB2 hB3 hB4 hB5 hB6 hdA hdB hRA hRB hLa hLb hcA hcB HCA HCB hga hgb
  obtain ⟨c0, c1, c2, c3, c4⟩ := cells5 H2.out
  have HS := Lib.hid (Below.refl w0.heap.size w0)
  go_cut [89] (fun s89 wx => ∃ bb : Bool, s89 = .bool bb ∧ (bb = false → B1 = true ∧ B2 = true ∧ B3 = true ∧ sk = false ∧ db = false ∧ 700 ≤ most ∧ 0 < La ∧ 0 < Lb ∧ B4 = true ∧ B5 = false ∧ B6 = false) ∧ Hid (Below w0.heap.size w0 wx))
  case first =>
    refine Gd.WT_start (by as_aux_lemma => kernel_rfl) (by as_aux_lemma => kernel_rfl) (by as_aux_lemma => kernel_rfl) (fun _ _ _ _ h => h) ?_
    by_cases hla : La = 0
    · subst hla
      refine ⟨(fun w' => w'.cell? ⟨w.heap.size, 0, none⟩ = some (.slice D dl.length cd) ∧ w'.cell? ⟨w.heap.size, 1, none⟩ = some (.slice F fl.length cf) ∧ w'.cell? ⟨w.heap.size, 2, none⟩ = some (.bool sk) ∧ w'.cell? ⟨w.heap.size, 3, none⟩ = some (.bool db) ∧ w'.cell? ⟨w.heap.size, 4, none⟩ = some (.int .i64 most) ∧ Hid (Below w0.heap.size w0 w')), ?_, fun hHeld => ?_⟩
      · (try dsimp only); go_split_ands; refine keepB5 hz2 H2.out ?_; (first | with_reducible assumption | (repeat' (first | with_reducible assumption | with_reducible exact HS | refine hid_drew ?_)))
      refine Gd.WT_take 0 (v := ?_) (by simp only [List.getElem?_toArray, List.getElem?_cons_succ, List.getElem?_cons_zero]; rfl) (Or.inl ⟨by rfl, ?_⟩) (by assumption) ?_
      rotate_left
      · ((intro w hSw; (try dsimp only at hSw); go_simp); (try with_reducible rfl))
      try simp only [Act.put, List.foldl_cons, List.foldl_nil, List.setIfInBounds_toArray, List.set_cons_zero, List.set_cons_succ]
      refine Gd.WT_call 1 (by simp only [List.getElem?_toArray, List.getElem?_cons_succ, List.getElem?_cons_zero]; rfl) (by as_aux_lemma => kernel_rfl) (fun K hK => ?_)
      go_simp
      (go_at_call 29; go_split_ands; (with_reducible refine (HSP.out _ (Hid.out (by assumption))).mono ?_); rintro e w4a ⟨rfl, hlq'⟩; have hBqa : Hid (Below w0.heap.size w0 w4a) := Lib.hid (hid_trans (Nat.le_refl _) (by assumption) hlq'); clear hlq')
      refine hK.out _ _ ?_ (fun hHeld => ?_)
      · (try dsimp only); go_split_ands; refine keepB5 hz2 H2.out ?_; (first | with_reducible assumption | (repeat' (first | with_reducible assumption | with_reducible exact HS | refine hid_drew ?_)))
      clear hK K
      try simp only [Act.put, List.foldl_cons, List.foldl_nil, List.setIfInBounds_toArray, List.set_cons_zero, List.set_cons_succ]
      refine Gd.WT_take 2 (v := ?_) (by simp only [List.getElem?_toArray, List.getElem?_cons_succ, List.getElem?_cons_zero]; rfl) (Or.inl ⟨by rfl, ?_⟩) (by assumption) ?_
      rotate_left
      · ((intro w hSw; (try dsimp only at hSw); go_simp); (try with_reducible rfl))
      try simp only [Act.put, List.foldl_cons, List.foldl_nil, List.setIfInBounds_toArray, List.set_cons_zero, List.set_cons_succ]
      refine Gd.WT_take 3 (v := ?_) (by simp only [List.getElem?_toArray, List.getElem?_cons_succ, List.getElem?_cons_zero]; rfl) (Or.inl ⟨by rfl, ?_⟩) (by assumption) ?_
      rotate_left
      · ((intro w hSw; (try dsimp only at hSw); go_simp); (try with_reducible rfl))
      try simp only [Act.put, List.foldl_cons, List.foldl_nil, List.setIfInBounds_toArray, List.set_cons_zero, List.set_cons_succ]
      cases B1
      · refine Gd.WT_passes (by assumption) 4 [none, none, none, some true, some true, none, none, none, some true, some true, none, none, some true, some true, none, none, some true, some true, none, none, none, some true, some true, none, none, none, some true, some true, none, none, none, some true, some true, none, none, none, none, none, none, none, none, none, none, some true, some true, none, none, none, none, none, none, some true, some true, none, none, none, none, none, none, some true] [(some 30, undef), (some 31, undef), (some 32, undef), (some 33, .bool true), (some 34, .bool true), (some 35, undef), (some 36, undef), (some 37, undef), (some 38, .bool true), (some 39, .bool true), (some 40, undef), (some 41, undef), (some 42, .bool true), (some 43, .bool true), (some 44, undef), (some 45, undef), (some 46, .bool true), (some 47, .bool true), (some 48, undef), (some 49, undef), (some 50, undef), (some 51, .bool true), (some 52, .bool true), (some 53, undef), (some 54, undef), (some 55, undef), (some 56, .bool true), (some 57, .bool true), (some 58, undef), (some 59, undef), (some 60, undef), (some 61, .bool true), (some 62, .bool true), (some 63, undef), (some 64, undef), (some 65, undef), (some 66, undef), (some 67, undef), (some 68, undef), (some 69, undef), (some 70, undef), (some 71, undef), (some 72, undef), (some 73, .bool true), (some 74, .bool true), (some 75, undef), (some 76, undef), (some 77, undef), (some 78, undef), (some 79, undef), (some 80, undef), (some 81, .bool true), (some 82, .bool true), (some 83, undef), (some 84, undef), (some 85, undef), (some 86, undef), (some 87, undef), (some 88, undef), (some 89, .bool true)] 64 _ (by kernel_rfl) (by kernel_rfl) rfl ?_
        simp only [Act.put, List.foldl_cons, List.foldl_nil, List.setIfInBounds_toArray, List.set_cons_zero, List.set_cons_succ]
        refine Gd.WT_end (by exact Nat.le_refl 64) ?_
        go_wp2_with fail
        go_meet
        case rel => exact ⟨true, rfl, by simp, by assumption⟩
      refine Gd.WT_take 4 (v := ?_) (by simp only [List.getElem?_toArray, List.getElem?_cons_succ, List.getElem?_cons_zero]; rfl) (Or.inl ⟨by rfl, ?_⟩) (by assumption) ?_
      rotate_left
      · ((intro w hSw; (try dsimp only at hSw); go_simp); (try with_reducible rfl))
      try simp only [Act.put, List.foldl_cons, List.foldl_nil, List.setIfInBounds_toArray, List.set_cons_zero, List.set_cons_succ]
      refine Gd.WT_call 5 (by simp only [List.getElem?_toArray, List.getElem?_cons_succ, List.getElem?_cons_zero]; rfl) (by as_aux_lemma => kernel_rfl) (fun K hK => ?_)
      go_simp
      (go_at_call 24; go_split_ands; (with_reducible refine (HR1.out _ (Hid.out (by assumption))).mono ?_); rintro e w4b ⟨rfl, hlq'⟩; have hBqb : Hid (Below w0.heap.size w0 w4b) := Lib.hid (hid_trans (Nat.le_refl _) (by assumption) hlq'); clear hlq')
      refine hK.out _ _ ?_ (fun hHeld => ?_)
      · (try dsimp only); go_split_ands; refine keepB5 hz2 H2.out ?_; (first | with_reducible assumption | (repeat' (first | with_reducible assumption | with_reducible exact HS | refine hid_drew ?_)))
      clear hK K
      try simp only [Act.put, List.foldl_cons, List.foldl_nil, List.setIfInBounds_toArray, List.set_cons_zero, List.set_cons_succ]
      refine Gd.WT_take 6 (v := ?_) (by simp only [List.getElem?_toArray, List.getElem?_cons_succ, List.getElem?_cons_zero]; rfl) (Or.inl ⟨by rfl, ?_⟩) (by assumption) ?_
      rotate_left
      · ((intro w hSw; (try dsimp only at hSw); go_simp); (try with_reducible rfl))
      try simp only [Act.put, List.foldl_cons, List.foldl_nil, List.setIfInBounds_toArray, List.set_cons_zero, List.set_cons_succ]
      refine Gd.WT_take 7 (v := ?_) (by simp only [List.getElem?_toArray, List.getElem?_cons_succ, List.getElem?_cons_zero]; rfl) (Or.inl ⟨by rfl, ?_⟩) (by assumption) ?_
      rotate_left
      · ((intro w hSw; (try dsimp only at hSw); go_simp); (try with_reducible rfl))
      try simp only [Act.put, List.foldl_cons, List.foldl_nil, List.setIfInBounds_toArray, List.set_cons_zero, List.set_cons_succ]
      refine Gd.WT_take 8 (v := ?_) (by simp only [List.getElem?_toArray, List.getElem?_cons_succ, List.getElem?_cons_zero]; rfl) (Or.inl ⟨by rfl, ?_⟩) (by assumption) ?_
      rotate_left
      · ((intro w hSw; (try dsimp only at hSw); go_simp); (try with_reducible rfl))
      try simp only [Act.put, List.foldl_cons, List.foldl_nil, List.setIfInBounds_toArray, List.set_cons_zero, List.set_cons_succ]
      cases B2
      · refine Gd.WT_passes (by assumption) 9 [none, none, none, some true, some true, none, none, some true, some true, none, none, some true, some true, none, none, none, some true, some true, none, none, none, some true, some true, none, none, none, some true, some true, none, none, none, none, none, none, none, none, none, none, some true, some true, none, none, none, none, none, none, some true, some true, none, none, none, none, none, none, some true] [(some 35, undef), (some 36, undef), (some 37, undef), (some 38, .bool true), (some 39, .bool true), (some 40, undef), (some 41, undef), (some 42, .bool true), (some 43, .bool true), (some 44, undef), (some 45, undef), (some 46, .bool true), (some 47, .bool true), (some 48, undef), (some 49, undef), (some 50, undef), (some 51, .bool true), (some 52, .bool true), (some 53, undef), (some 54, undef), (some 55, undef), (some 56, .bool true), (some 57, .bool true), (some 58, undef), (some 59, undef), (some 60, undef), (some 61, .bool true), (some 62, .bool true), (some 63, undef), (some 64, undef), (some 65, undef), (some 66, undef), (some 67, undef), (some 68, undef), (some 69, undef), (some 70, undef), (some 71, undef), (some 72, undef), (some 73, .bool true), (some 74, .bool true), (some 75, undef), (some 76, undef), (some 77, undef), (some 78, undef), (some 79, undef), (some 80, undef), (some 81, .bool true), (some 82, .bool true), (some 83, undef), (some 84, undef), (some 85, undef), (some 86, undef), (some 87, undef), (some 88, undef), (some 89, .bool true)] 64 _ (by kernel_rfl) (by kernel_rfl) rfl ?_
        simp only [Act.put, List.foldl_cons, List.foldl_nil, List.setIfInBounds_toArray, List.set_cons_zero, List.set_cons_succ]
        refine Gd.WT_end (by exact Nat.le_refl 64) ?_
        go_wp2_with fail
        go_meet
        case rel => exact ⟨true, rfl, by simp, by assumption⟩
      refine Gd.WT_take 9 (v := ?_) (by simp only [List.getElem?_toArray, List.getElem?_cons_succ, List.getElem?_cons_zero]; rfl) (Or.inl ⟨by rfl, ?_⟩) (by assumption) ?_
      rotate_left
      · ((intro w hSw; (try dsimp only at hSw); go_simp); (try with_reducible rfl))
      try simp only [Act.put, List.foldl_cons, List.foldl_nil, List.setIfInBounds_toArray, List.set_cons_zero, List.set_cons_succ]
      refine Gd.WT_call 10 (by simp only [List.getElem?_toArray, List.getElem?_cons_succ, List.getElem?_cons_zero]; rfl) (by as_aux_lemma => kernel_rfl) (fun K hK => ?_)
      go_simp
      (go_at_call 24; go_split_ands; (with_reducible refine (HR2.out _ (Hid.out (by assumption))).mono ?_); rintro e w4c ⟨rfl, hlq'⟩; have hBqc : Hid (Below w0.heap.size w0 w4c) := Lib.hid (hid_trans (Nat.le_refl _) (by assumption) hlq'); clear hlq')
      refine hK.out _ _ ?_ (fun hHeld => ?_)
      · (try dsimp only); go_split_ands; refine keepB5 hz2 H2.out ?_; (first | with_reducible assumption | (repeat' (first | with_reducible assumption | with_reducible exact HS | refine hid_drew ?_)))
      clear hK K
      try simp only [Act.put, List.foldl_cons, List.foldl_nil, List.setIfInBounds_toArray, List.set_cons_zero, List.set_cons_succ]
      refine Gd.WT_take 11 (v := ?_) (by simp only [List.getElem?_toArray, List.getElem?_cons_succ, List.getElem?_cons_zero]; rfl) (Or.inl ⟨by rfl, ?_⟩) (by assumption) ?_
      rotate_left
      · ((intro w hSw; (try dsimp only at hSw); go_simp); (try with_reducible rfl))
      try simp only [Act.put, List.foldl_cons, List.foldl_nil, List.setIfInBounds_toArray, List.set_cons_zero, List.set_cons_succ]
      refine Gd.WT_take 12 (v := ?_) (by simp only [List.getElem?_toArray, List.getElem?_cons_succ, List.getElem?_cons_zero]; rfl) (Or.inl ⟨by rfl, ?_⟩) (by assumption) ?_
      rotate_left
      · ((intro w hSw; (try dsimp only at hSw); go_simp); (try with_reducible rfl))
      try simp only [Act.put, List.foldl_cons, List.foldl_nil, List.setIfInBounds_toArray, List.set_cons_zero, List.set_cons_succ]
      refine Gd.WT_take 13 (v := ?_) (by simp only [List.getElem?_toArray, List.getElem?_cons_succ, List.getElem?_cons_zero]; rfl) (Or.inl ⟨by rfl, ?_⟩) (by assumption) ?_
      rotate_left
      · ((intro w hSw; (try dsimp only at hSw); go_simp); (try with_reducible rfl))
      try simp only [Act.put, List.foldl_cons, List.foldl_nil, List.setIfInBounds_toArray, List.set_cons_zero, List.set_cons_succ]
      cases B3
      · refine Gd.WT_passes (by assumption) 14 [none, none, some true, some true, none, none, some true, some true, none, none, none, some true, some true, none, none, none, some true, some true, none, none, none, some true, some true, none, none, none, none, none, none, none, none, none, none, some true, some true, none, none, none, none, none, none, some true, some true, none, none, none, none, none, none, some true] [(some 40, undef), (some 41, undef), (some 42, .bool true), (some 43, .bool true), (some 44, undef), (some 45, undef), (some 46, .bool true), (some 47, .bool true), (some 48, undef), (some 49, undef), (some 50, undef), (some 51, .bool true), (some 52, .bool true), (some 53, undef), (some 54, undef), (some 55, undef), (some 56, .bool true), (some 57, .bool true), (some 58, undef), (some 59, undef), (some 60, undef), (some 61, .bool true), (some 62, .bool true), (some 63, undef), (some 64, undef), (some 65, undef), (some 66, undef), (some 67, undef), (some 68, undef), (some 69, undef), (some 70, undef), (some 71, undef), (some 72, undef), (some 73, .bool true), (some 74, .bool true), (some 75, undef), (some 76, undef), (some 77, undef), (some 78, undef), (some 79, undef), (some 80, undef), (some 81, .bool true), (some 82, .bool true), (some 83, undef), (some 84, undef), (some 85, undef), (some 86, undef), (some 87, undef), (some 88, undef), (some 89, .bool true)] 64 _ (by kernel_rfl) (by kernel_rfl) rfl ?_
        simp only [Act.put, List.foldl_cons, List.foldl_nil, List.setIfInBounds_toArray, List.set_cons_zero, List.set_cons_succ]
        refine Gd.WT_end (by exact Nat.le_refl 64) ?_
        go_wp2_with fail
        go_meet
        case rel => exact ⟨true, rfl, by simp, by assumption⟩
      refine Gd.WT_take 14 (v := ?_) (by simp only [List.getElem?_toArray, List.getElem?_cons_succ, List.getElem?_cons_zero]; rfl) (Or.inl ⟨by rfl, ?_⟩) (by assumption) ?_
      rotate_left
      · ((intro w hSw; (try dsimp only at hSw); go_simp); (try with_reducible rfl))
      try simp only [Act.put, List.foldl_cons, List.foldl_nil, List.setIfInBounds_toArray, List.set_cons_zero, List.set_cons_succ]
      refine Gd.WT_take 15 (v := ?_) (by simp only [List.getElem?_toArray, List.getElem?_cons_succ, List.getElem?_cons_zero]; rfl) (Or.inl ⟨by rfl, ?_⟩) (by assumption) ?_
      rotate_left
      · ((intro w hSw; (try dsimp only at hSw); go_simp); (try with_reducible rfl))
      try simp only [Act.put, List.foldl_cons, List.foldl_nil, List.setIfInBounds_toArray, List.set_cons_zero, List.set_cons_succ]
      refine Gd.WT_take 16 (v := ?_) (by simp only [List.getElem?_toArray, List.getElem?_cons_succ, List.getElem?_cons_zero]; rfl) (Or.inl ⟨by rfl, ?_⟩) (by assumption) ?_
      rotate_left
      · ((intro w hSw; (try dsimp only at hSw); go_simp); (try with_reducible rfl))
      try simp only [Act.put, List.foldl_cons, List.foldl_nil, List.setIfInBounds_toArray, List.set_cons_zero, List.set_cons_succ]
      refine Gd.WT_take 17 (v := ?_) (by simp only [List.getElem?_toArray, List.getElem?_cons_succ, List.getElem?_cons_zero]; rfl) (Or.inl ⟨by rfl, ?_⟩) (by assumption) ?_
      rotate_left
      · ((intro w hSw; (try dsimp only at hSw); go_simp); (try with_reducible rfl))
      try simp only [Act.put, List.foldl_cons, List.foldl_nil, List.setIfInBounds_toArray, List.set_cons_zero, List.set_cons_succ]
      cases sk
      rotate_left
      · refine Gd.WT_passes (by assumption) 18 [none, none, some true, some true, none, none, none, some true, some true, none, none, none, some true, some true, none, none, none, some true, some true, none, none, none, none, none, none, none, none, none, none, some true, some true, none, none, none, none, none, none, some true, some true, none, none, none, none, none, none, some true] [(some 44, undef), (some 45, undef), (some 46, .bool true), (some 47, .bool true), (some 48, undef), (some 49, undef), (some 50, undef), (some 51, .bool true), (some 52, .bool true), (some 53, undef), (some 54, undef), (some 55, undef), (some 56, .bool true), (some 57, .bool true), (some 58, undef), (some 59, undef), (some 60, undef), (some 61, .bool true), (some 62, .bool true), (some 63, undef), (some 64, undef), (some 65, undef), (some 66, undef), (some 67, undef), (some 68, undef), (some 69, undef), (some 70, undef), (some 71, undef), (some 72, undef), (some 73, .bool true), (some 74, .bool true), (some 75, undef), (some 76, undef), (some 77, undef), (some 78, undef), (some 79, undef), (some 80, undef), (some 81, .bool true), (some 82, .bool true), (some 83, undef), (some 84, undef), (some 85, undef), (some 86, undef), (some 87, undef), (some 88, undef), (some 89, .bool true)] 64 _ (by kernel_rfl) (by kernel_rfl) rfl ?_
        simp only [Act.put, List.foldl_cons, List.foldl_nil, List.setIfInBounds_toArray, List.set_cons_zero, List.set_cons_succ]
        refine Gd.WT_end (by exact Nat.le_refl 64) ?_
        go_wp2_with fail
        go_meet
        case rel => exact ⟨true, rfl, by simp, by assumption⟩
      refine Gd.WT_take 18 (v := ?_) (by simp only [List.getElem?_toArray, List.getElem?_cons_succ, List.getElem?_cons_zero]; rfl) (Or.inl ⟨by rfl, ?_⟩) (by assumption) ?_
      rotate_left
      · ((intro w hSw; (try dsimp only at hSw); go_simp); (try with_reducible rfl))
      try simp only [Act.put, List.foldl_cons, List.foldl_nil, List.setIfInBounds_toArray, List.set_cons_zero, List.set_cons_succ]
      refine Gd.WT_take 19 (v := ?_) (by simp only [List.getElem?_toArray, List.getElem?_cons_succ, List.getElem?_cons_zero]; rfl) (Or.inl ⟨by rfl, ?_⟩) (by assumption) ?_
      rotate_left
      · ((intro w hSw; (try dsimp only at hSw); go_simp); (try with_reducible rfl))
      try simp only [Act.put, List.foldl_cons, List.foldl_nil, List.setIfInBounds_toArray, List.set_cons_zero, List.set_cons_succ]
      refine Gd.WT_take 20 (v := ?_) (by simp only [List.getElem?_toArray, List.getElem?_cons_succ, List.getElem?_cons_zero]; rfl) (Or.inl ⟨by rfl, ?_⟩) (by assumption) ?_
      rotate_left
      · ((intro w hSw; (try dsimp only at hSw); go_simp); (try with_reducible rfl))
      try simp only [Act.put, List.foldl_cons, List.foldl_nil, List.setIfInBounds_toArray, List.set_cons_zero, List.set_cons_succ]
      refine Gd.WT_take 21 (v := ?_) (by simp only [List.getElem?_toArray, List.getElem?_cons_succ, List.getElem?_cons_zero]; rfl) (Or.inl ⟨by rfl, ?_⟩) (by assumption) ?_
      rotate_left
      · ((intro w hSw; (try dsimp only at hSw); go_simp); (try with_reducible rfl))
      try simp only [Act.put, List.foldl_cons, List.foldl_nil, List.setIfInBounds_toArray, List.set_cons_zero, List.set_cons_succ]
      cases db
      rotate_left
      · refine Gd.WT_passes (by assumption) 22 [none, none, none, some true, some true, none, none, none, some true, some true, none, none, none, some true, some true, none, none, none, none, none, none, none, none, none, none, some true, some true, none, none, none, none, none, none, some true, some true, none, none, none, none, none, none, some true] [(some 48, undef), (some 49, undef), (some 50, undef), (some 51, .bool true), (some 52, .bool true), (some 53, undef), (some 54, undef), (some 55, undef), (some 56, .bool true), (some 57, .bool true), (some 58, undef), (some 59, undef), (some 60, undef), (some 61, .bool true), (some 62, .bool true), (some 63, undef), (some 64, undef), (some 65, undef), (some 66, undef), (some 67, undef), (some 68, undef), (some 69, undef), (some 70, undef), (some 71, undef), (some 72, undef), (some 73, .bool true), (some 74, .bool true), (some 75, undef), (some 76, undef), (some 77, undef), (some 78, undef), (some 79, undef), (some 80, undef), (some 81, .bool true), (some 82, .bool true), (some 83, undef), (some 84, undef), (some 85, undef), (some 86, undef), (some 87, undef), (some 88, undef), (some 89, .bool true)] 64 _ (by kernel_rfl) (by kernel_rfl) rfl ?_
        simp only [Act.put, List.foldl_cons, List.foldl_nil, List.setIfInBounds_toArray, List.set_cons_zero, List.set_cons_succ]
        refine Gd.WT_end (by exact Nat.le_refl 64) ?_
        go_wp2_with fail
        go_meet
        case rel => exact ⟨true, rfl, by simp, by assumption⟩
      refine Gd.WT_take 22 (v := ?_) (by simp only [List.getElem?_toArray, List.getElem?_cons_succ, List.getElem?_cons_zero]; rfl) (Or.inl ⟨by rfl, ?_⟩) (by assumption) ?_
      rotate_left
      · ((intro w hSw; (try dsimp only at hSw); go_simp); (try with_reducible rfl))
      try simp only [Act.put, List.foldl_cons, List.foldl_nil, List.setIfInBounds_toArray, List.set_cons_zero, List.set_cons_succ]
      refine Gd.WT_take 23 (v := ?_) (by simp only [List.getElem?_toArray, List.getElem?_cons_succ, List.getElem?_cons_zero]; rfl) (Or.inl ⟨by rfl, ?_⟩) (by assumption) ?_
      rotate_left
      · ((intro w hSw; (try dsimp only at hSw); go_simp); (try with_reducible rfl))
      try simp only [Act.put, List.foldl_cons, List.foldl_nil, List.setIfInBounds_toArray, List.set_cons_zero, List.set_cons_succ]
      refine Gd.WT_take 24 (v := ?_) (by simp only [List.getElem?_toArray, List.getElem?_cons_succ, List.getElem?_cons_zero]; rfl) (Or.inl ⟨by rfl, ?_⟩) (by assumption) ?_
      rotate_left
      · ((intro w hSw; (try dsimp only at hSw); go_simp); (try with_reducible rfl))
      try simp only [Act.put, List.foldl_cons, List.foldl_nil, List.setIfInBounds_toArray, List.set_cons_zero, List.set_cons_succ]
      refine Gd.WT_take 25 (v := ?_) (by simp only [List.getElem?_toArray, List.getElem?_cons_succ, List.getElem?_cons_zero]; rfl) (Or.inl ⟨by rfl, ?_⟩) (by assumption) ?_
      rotate_left
      · ((intro w hSw; (try dsimp only at hSw); go_simp); (try with_reducible rfl))
      try simp only [Act.put, List.foldl_cons, List.foldl_nil, List.setIfInBounds_toArray, List.set_cons_zero, List.set_cons_succ]
      refine Gd.WT_take 26 (v := ?_) (by simp only [List.getElem?_toArray, List.getElem?_cons_succ, List.getElem?_cons_zero]; rfl) (Or.inl ⟨by rfl, ?_⟩) (by assumption) ?_
      rotate_left
      · ((intro w hSw; (try dsimp only at hSw); go_simp); (try with_reducible rfl))
      try simp only [Act.put, List.foldl_cons, List.foldl_nil, List.setIfInBounds_toArray, List.set_cons_zero, List.set_cons_succ]
      by_cases hm : most < 700
      all_goals (try simp only [hm, decide_true, decide_false])
      · refine Gd.WT_passes (by assumption) 27 [none, none, none, some true, some true, none, none, none, some true, some true, none, none, none, none, none, none, none, none, none, none, some true, some true, none, none, none, none, none, none, some true, some true, none, none, none, none, none, none, some true] [(some 53, undef), (some 54, undef), (some 55, undef), (some 56, .bool true), (some 57, .bool true), (some 58, undef), (some 59, undef), (some 60, undef), (some 61, .bool true), (some 62, .bool true), (some 63, undef), (some 64, undef), (some 65, undef), (some 66, undef), (some 67, undef), (some 68, undef), (some 69, undef), (some 70, undef), (some 71, undef), (some 72, undef), (some 73, .bool true), (some 74, .bool true), (some 75, undef), (some 76, undef), (some 77, undef), (some 78, undef), (some 79, undef), (some 80, undef), (some 81, .bool true), (some 82, .bool true), (some 83, undef), (some 84, undef), (some 85, undef), (some 86, undef), (some 87, undef), (some 88, undef), (some 89, .bool true)] 64 _ (by kernel_rfl) (by kernel_rfl) rfl ?_
        simp only [Act.put, List.foldl_cons, List.foldl_nil, List.setIfInBounds_toArray, List.set_cons_zero, List.set_cons_succ]
        refine Gd.WT_end (by exact Nat.le_refl 64) ?_
        go_wp2_with fail
        go_meet
        case rel => exact ⟨true, rfl, by simp, by assumption⟩
      refine Gd.WT_take 27 (v := ?_) (by simp only [List.getElem?_toArray, List.getElem?_cons_succ, List.getElem?_cons_zero]; rfl) (Or.inl ⟨by rfl, ?_⟩) (by assumption) ?_
      rotate_left
      · ((intro w hSw; (try dsimp only at hSw); go_simp); (try with_reducible rfl))
      try simp only [Act.put, List.foldl_cons, List.foldl_nil, List.setIfInBounds_toArray, List.set_cons_zero, List.set_cons_succ]
      refine Gd.WT_take 28 (v := ?_) (by simp only [List.getElem?_toArray, List.getElem?_cons_succ, List.getElem?_cons_zero]; rfl) (Or.inl ⟨by rfl, ?_⟩) (by assumption) ?_
      rotate_left
      · ((intro w hSw; (try dsimp only at hSw); go_simp); (try with_reducible rfl))
      try simp only [Act.put, List.foldl_cons, List.foldl_nil, List.setIfInBounds_toArray, List.set_cons_zero, List.set_cons_succ]
      refine Gd.WT_take 29 (v := ?_) (by simp only [List.getElem?_toArray, List.getElem?_cons_succ, List.getElem?_cons_zero]; rfl) (Or.inl ⟨by rfl, ?_⟩) (by assumption) ?_
      rotate_left
      · ((intro w hSw; (try dsimp only at hSw); go_simp); (try with_reducible rfl))
      try simp only [Act.put, List.foldl_cons, List.foldl_nil, List.setIfInBounds_toArray, List.set_cons_zero, List.set_cons_succ]
      refine Gd.WT_take 30 (v := ?_) (by simp only [List.getElem?_toArray, List.getElem?_cons_succ, List.getElem?_cons_zero]; rfl) (Or.inl ⟨by rfl, ?_⟩) (by assumption) ?_
      rotate_left
      · ((intro w hSw; (try dsimp only at hSw); go_simp); (try with_reducible rfl))
      try simp only [Act.put, List.foldl_cons, List.foldl_nil, List.setIfInBounds_toArray, List.set_cons_zero, List.set_cons_succ]
      refine Gd.WT_take 31 (v := ?_) (by simp only [List.getElem?_toArray, List.getElem?_cons_succ, List.getElem?_cons_zero]; rfl) (Or.inl ⟨by rfl, ?_⟩) (by assumption) ?_
      rotate_left
      · ((intro w hSw; (try dsimp only at hSw); go_simp); (try with_reducible rfl))
      try simp only [Act.put, List.foldl_cons, List.foldl_nil, List.setIfInBounds_toArray, List.set_cons_zero, List.set_cons_succ]
      refine Gd.WT_passes (by assumption) 32 [none, none, none, some true, some true, none, none, none, none, none, none, none, none, none, none, some true, some true, none, none, none, none, none, none, some true, some true, none, none, none, none, none, none, some true] [(some 58, undef), (some 59, undef), (some 60, undef), (some 61, .bool true), (some 62, .bool true), (some 63, undef), (some 64, undef), (some 65, undef), (some 66, undef), (some 67, undef), (some 68, undef), (some 69, undef), (some 70, undef), (some 71, undef), (some 72, undef), (some 73, .bool true), (some 74, .bool true), (some 75, undef), (some 76, undef), (some 77, undef), (some 78, undef), (some 79, undef), (some 80, undef), (some 81, .bool true), (some 82, .bool true), (some 83, undef), (some 84, undef), (some 85, undef), (some 86, undef), (some 87, undef), (some 88, undef), (some 89, .bool true)] 64 _ (by kernel_rfl) (by kernel_rfl) rfl ?_
      simp only [Act.put, List.foldl_cons, List.foldl_nil, List.setIfInBounds_toArray, List.set_cons_zero, List.set_cons_succ]
      refine Gd.WT_end (by exact Nat.le_refl 64) ?_
      go_wp2_with fail
      go_meet
      case rel => exact ⟨true, rfl, by simp, by assumption⟩
    have hA0 : ((La : Int) == 0) = false := by simpa using hla
    by_cases hlb : Lb = 0
    · subst hlb
      refine ⟨(fun w' => w'.cell? ⟨w.heap.size, 0, none⟩ = some (.slice D dl.length cd) ∧ w'.cell? ⟨w.heap.size, 1, none⟩ = some (.slice F fl.length cf) ∧ w'.cell? ⟨w.heap.size, 2, none⟩ = some (.bool sk) ∧ w'.cell? ⟨w.heap.size, 3, none⟩ = some (.bool db) ∧ w'.cell? ⟨w.heap.size, 4, none⟩ = some (.int .i64 most) ∧ Hid (Below w0.heap.size w0 w')), ?_, fun hHeld => ?_⟩
      · (try dsimp only); go_split_ands; refine keepB5 hz2 H2.out ?_; (first | with_reducible assumption | (repeat' (first | with_reducible assumption | with_reducible exact HS | refine hid_drew ?_)))
      refine Gd.WT_take 0 (v := ?_) (by simp only [List.getElem?_toArray, List.getElem?_cons_succ, List.getElem?_cons_zero]; rfl) (Or.inl ⟨by rfl, ?_⟩) (by assumption) ?_
      rotate_left
      · ((intro w hSw; (try dsimp only at hSw); go_simp); (try with_reducible rfl))
      try simp only [Act.put, List.foldl_cons, List.foldl_nil, List.setIfInBounds_toArray, List.set_cons_zero, List.set_cons_succ]
      refine Gd.WT_call 1 (by simp only [List.getElem?_toArray, List.getElem?_cons_succ, List.getElem?_cons_zero]; rfl) (by as_aux_lemma => kernel_rfl) (fun K hK => ?_)
      go_simp
      (go_at_call 29; go_split_ands; (with_reducible refine (HSP.out _ (Hid.out (by assumption))).mono ?_); rintro e w4a ⟨rfl, hlq'⟩; have hBqa : Hid (Below w0.heap.size w0 w4a) := Lib.hid (hid_trans (Nat.le_refl _) (by assumption) hlq'); clear hlq')
      refine hK.out _ _ ?_ (fun hHeld => ?_)
      · (try dsimp only); go_split_ands; refine keepB5 hz2 H2.out ?_; (first | with_reducible assumption | (repeat' (first | with_reducible assumption | with_reducible exact HS | refine hid_drew ?_)))
      clear hK K
      try simp only [Act.put, List.foldl_cons, List.foldl_nil, List.setIfInBounds_toArray, List.set_cons_zero, List.set_cons_succ]
      refine Gd.WT_take 2 (v := ?_) (by simp only [List.getElem?_toArray, List.getElem?_cons_succ, List.getElem?_cons_zero]; rfl) (Or.inl ⟨by rfl, ?_⟩) (by assumption) ?_
      rotate_left
      · ((intro w hSw; (try dsimp only at hSw); go_simp); (try with_reducible rfl))
      try simp only [Act.put, List.foldl_cons, List.foldl_nil, List.setIfInBounds_toArray, List.set_cons_zero, List.set_cons_succ]
      refine Gd.WT_take 3 (v := ?_) (by simp only [List.getElem?_toArray, List.getElem?_cons_succ, List.getElem?_cons_zero]; rfl) (Or.inl ⟨by rfl, ?_⟩) (by assumption) ?_
      rotate_left
      · ((intro w hSw; (try dsimp only at hSw); go_simp); (try with_reducible rfl))
      try simp only [Act.put, List.foldl_cons, List.foldl_nil, List.setIfInBounds_toArray, List.set_cons_zero, List.set_cons_succ]
      cases B1
      · refine Gd.WT_passes (by assumption) 4 [none, none, none, some true, some true, none, none, none, some true, some true, none, none, some true, some true, none, none, some true, some true, none, none, none, some true, some true, none, none, none, some true, some true, none, none, none, some true, some true, none, none, none, none, none, none, none, none, none, none, some true, some true, none, none, none, none, none, none, some true, some true, none, none, none, none, none, none, some true] [(some 30, undef), (some 31, undef), (some 32, undef), (some 33, .bool true), (some 34, .bool true), (some 35, undef), (some 36, undef), (some 37, undef), (some 38, .bool true), (some 39, .bool true), (some 40, undef), (some 41, undef), (some 42, .bool true), (some 43, .bool true), (some 44, undef), (some 45, undef), (some 46, .bool true), (some 47, .bool true), (some 48, undef), (some 49, undef), (some 50, undef), (some 51, .bool true), (some 52, .bool true), (some 53, undef), (some 54, undef), (some 55, undef), (some 56, .bool true), (some 57, .bool true), (some 58, undef), (some 59, undef), (some 60, undef), (some 61, .bool true), (some 62, .bool true), (some 63, undef), (some 64, undef), (some 65, undef), (some 66, undef), (some 67, undef), (some 68, undef), (some 69, undef), (some 70, undef), (some 71, undef), (some 72, undef), (some 73, .bool true), (some 74, .bool true), (some 75, undef), (some 76, undef), (some 77, undef), (some 78, undef), (some 79, undef), (some 80, undef), (some 81, .bool true), (some 82, .bool true), (some 83, undef), (some 84, undef), (some 85, undef), (some 86, undef), (some 87, undef), (some 88, undef), (some 89, .bool true)] 64 _ (by kernel_rfl) (by kernel_rfl) rfl ?_
        simp only [Act.put, List.foldl_cons, List.foldl_nil, List.setIfInBounds_toArray, List.set_cons_zero, List.set_cons_succ]
        refine Gd.WT_end (by exact Nat.le_refl 64) ?_
        go_wp2_with fail
        go_meet
        case rel => exact ⟨true, rfl, by simp, by assumption⟩
      refine Gd.WT_take 4 (v := ?_) (by simp only [List.getElem?_toArray, List.getElem?_cons_succ, List.getElem?_cons_zero]; rfl) (Or.inl ⟨by rfl, ?_⟩) (by assumption) ?_
      rotate_left
      · ((intro w hSw; (try dsimp only at hSw); go_simp); (try with_reducible rfl))
      try simp only [Act.put, List.foldl_cons, List.foldl_nil, List.setIfInBounds_toArray, List.set_cons_zero, List.set_cons_succ]
      refine Gd.WT_call 5 (by simp only [List.getElem?_toArray, List.getElem?_cons_succ, List.getElem?_cons_zero]; rfl) (by as_aux_lemma => kernel_rfl) (fun K hK => ?_)
      go_simp
      (go_at_call 24; go_split_ands; (with_reducible refine (HR1.out _ (Hid.out (by assumption))).mono ?_); rintro e w4b ⟨rfl, hlq'⟩; have hBqb : Hid (Below w0.heap.size w0 w4b) := Lib.hid (hid_trans (Nat.le_refl _) (by assumption) hlq'); clear hlq')
      refine hK.out _ _ ?_ (fun hHeld => ?_)
      · (try dsimp only); go_split_ands; refine keepB5 hz2 H2.out ?_; (first | with_reducible assumption | (repeat' (first | with_reducible assumption | with_reducible exact HS | refine hid_drew ?_)))
      clear hK K
      try simp only [Act.put, List.foldl_cons, List.foldl_nil, List.setIfInBounds_toArray, List.set_cons_zero, List.set_cons_succ]
      refine Gd.WT_take 6 (v := ?_) (by simp only [List.getElem?_toArray, List.getElem?_cons_succ, List.getElem?_cons_zero]; rfl) (Or.inl ⟨by rfl, ?_⟩) (by assumption) ?_
      rotate_left
      · ((intro w hSw; (try dsimp only at hSw); go_simp); (try with_reducible rfl))
      try simp only [Act.put, List.foldl_cons, List.foldl_nil, List.setIfInBounds_toArray, List.set_cons_zero, List.set_cons_succ]
      refine Gd.WT_take 7 (v := ?_) (by simp only [List.getElem?_toArray, List.getElem?_cons_succ, List.getElem?_cons_zero]; rfl) (Or.inl ⟨by rfl, ?_⟩) (by assumption) ?_
      rotate_left
      · ((intro w hSw; (try dsimp only at hSw); go_simp); (try with_reducible rfl))
      try simp only [Act.put, List.foldl_cons, List.foldl_nil, List.setIfInBounds_toArray, List.set_cons_zero, List.set_cons_succ]
      refine Gd.WT_take 8 (v := ?_) (by simp only [List.getElem?_toArray, List.getElem?_cons_succ, List.getElem?_cons_zero]; rfl) (Or.inl ⟨by rfl, ?_⟩) (by assumption) ?_
      rotate_left
      · ((intro w hSw; (try dsimp only at hSw); go_simp); (try with_reducible rfl))
      try simp only [Act.put, List.foldl_cons, List.foldl_nil, List.setIfInBounds_toArray, List.set_cons_zero, List.set_cons_succ]
      cases B2
      · refine Gd.WT_passes (by assumption) 9 [none, none, none, some true, some true, none, none, some true, some true, none, none, some true, some true, none, none, none, some true, some true, none, none, none, some true, some true, none, none, none, some true, some true, none, none, none, none, none, none, none, none, none, none, some true, some true, none, none, none, none, none, none, some true, some true, none, none, none, none, none, none, some true] [(some 35, undef), (some 36, undef), (some 37, undef), (some 38, .bool true), (some 39, .bool true), (some 40, undef), (some 41, undef), (some 42, .bool true), (some 43, .bool true), (some 44, undef), (some 45, undef), (some 46, .bool true), (some 47, .bool true), (some 48, undef), (some 49, undef), (some 50, undef), (some 51, .bool true), (some 52, .bool true), (some 53, undef), (some 54, undef), (some 55, undef), (some 56, .bool true), (some 57, .bool true), (some 58, undef), (some 59, undef), (some 60, undef), (some 61, .bool true), (some 62, .bool true), (some 63, undef), (some 64, undef), (some 65, undef), (some 66, undef), (some 67, undef), (some 68, undef), (some 69, undef), (some 70, undef), (some 71, undef), (some 72, undef), (some 73, .bool true), (some 74, .bool true), (some 75, undef), (some 76, undef), (some 77, undef), (some 78, undef), (some 79, undef), (some 80, undef), (some 81, .bool true), (some 82, .bool true), (some 83, undef), (some 84, undef), (some 85, undef), (some 86, undef), (some 87, undef), (some 88, undef), (some 89, .bool true)] 64 _ (by kernel_rfl) (by kernel_rfl) rfl ?_
        simp only [Act.put, List.foldl_cons, List.foldl_nil, List.setIfInBounds_toArray, List.set_cons_zero, List.set_cons_succ]
        refine Gd.WT_end (by exact Nat.le_refl 64) ?_
        go_wp2_with fail
        go_meet
        case rel => exact ⟨true, rfl, by simp, by assumption⟩
      refine Gd.WT_take 9 (v := ?_) (by simp only [List.getElem?_toArray, List.getElem?_cons_succ, List.getElem?_cons_zero]; rfl) (Or.inl ⟨by rfl, ?_⟩) (by assumption) ?_
      rotate_left
      · ((intro w hSw; (try dsimp only at hSw); go_simp); (try with_reducible rfl))
      try simp only [Act.put, List.foldl_cons, List.foldl_nil, List.setIfInBounds_toArray, List.set_cons_zero, List.set_cons_succ]
      refine Gd.WT_call 10 (by simp only [List.getElem?_toArray, List.getElem?_cons_succ, List.getElem?_cons_zero]; rfl) (by as_aux_lemma => kernel_rfl) (fun K hK => ?_)
      go_simp
      (go_at_call 24; go_split_ands; (with_reducible refine (HR2.out _ (Hid.out (by assumption))).mono ?_); rintro e w4c ⟨rfl, hlq'⟩; have hBqc : Hid (Below w0.heap.size w0 w4c) := Lib.hid (hid_trans (Nat.le_refl _) (by assumption) hlq'); clear hlq')
      refine hK.out _ _ ?_ (fun hHeld => ?_)
      · (try dsimp only); go_split_ands; refine keepB5 hz2 H2.out ?_; (first | with_reducible assumption | (repeat' (first | with_reducible assumption | with_reducible exact HS | refine hid_drew ?_)))
      clear hK K
      try simp only [Act.put, List.foldl_cons, List.foldl_nil, List.setIfInBounds_toArray, List.set_cons_zero, List.set_cons_succ]
      refine Gd.WT_take 11 (v := ?_) (by simp only [List.getElem?_toArray, List.getElem?_cons_succ, List.getElem?_cons_zero]; rfl) (Or.inl ⟨by rfl, ?_⟩) (by assumption) ?_
      rotate_left
      · ((intro w hSw; (try dsimp only at hSw); go_simp); (try with_reducible rfl))
      try simp only [Act.put, List.foldl_cons, List.foldl_nil, List.setIfInBounds_toArray, List.set_cons_zero, List.set_cons_succ]
      refine Gd.WT_take 12 (v := ?_) (by simp only [List.getElem?_toArray, List.getElem?_cons_succ, List.getElem?_cons_zero]; rfl) (Or.inl ⟨by rfl, ?_⟩) (by assumption) ?_
      rotate_left
      · ((intro w hSw; (try dsimp only at hSw); go_simp); (try with_reducible rfl))
      try simp only [Act.put, List.foldl_cons, List.foldl_nil, List.setIfInBounds_toArray, List.set_cons_zero, List.set_cons_succ]
      refine Gd.WT_take 13 (v := ?_) (by simp only [List.getElem?_toArray, List.getElem?_cons_succ, List.getElem?_cons_zero]; rfl) (Or.inl ⟨by rfl, ?_⟩) (by assumption) ?_
      rotate_left
      · ((intro w hSw; (try dsimp only at hSw); go_simp); (try with_reducible rfl))
      try simp only [Act.put, List.foldl_cons, List.foldl_nil, List.setIfInBounds_toArray, List.set_cons_zero, List.set_cons_succ]
      cases B3
      · refine Gd.WT_passes (by assumption) 14 [none, none, some true, some true, none, none, some true, some true, none, none, none, some true, some true, none, none, none, some true, some true, none, none, none, some true, some true, none, none, none, none, none, none, none, none, none, none, some true, some true, none, none, none, none, none, none, some true, some true, none, none, none, none, none, none, some true] [(some 40, undef), (some 41, undef), (some 42, .bool true), (some 43, .bool true), (some 44, undef), (some 45, undef), (some 46, .bool true), (some 47, .bool true), (some 48, undef), (some 49, undef), (some 50, undef), (some 51, .bool true), (some 52, .bool true), (some 53, undef), (some 54, undef), (some 55, undef), (some 56, .bool true), (some 57, .bool true), (some 58, undef), (some 59, undef), (some 60, undef), (some 61, .bool true), (some 62, .bool true), (some 63, undef), (some 64, undef), (some 65, undef), (some 66, undef), (some 67, undef), (some 68, undef), (some 69, undef), (some 70, undef), (some 71, undef), (some 72, undef), (some 73, .bool true), (some 74, .bool true), (some 75, undef), (some 76, undef), (some 77, undef), (some 78, undef), (some 79, undef), (some 80, undef), (some 81, .bool true), (some 82, .bool true), (some 83, undef), (some 84, undef), (some 85, undef), (some 86, undef), (some 87, undef), (some 88, undef), (some 89, .bool true)] 64 _ (by kernel_rfl) (by kernel_rfl) rfl ?_
        simp only [Act.put, List.foldl_cons, List.foldl_nil, List.setIfInBounds_toArray, List.set_cons_zero, List.set_cons_succ]
        refine Gd.WT_end (by exact Nat.le_refl 64) ?_
        go_wp2_with fail
        go_meet
        case rel => exact ⟨true, rfl, by simp, by assumption⟩
      refine Gd.WT_take 14 (v := ?_) (by simp only [List.getElem?_toArray, List.getElem?_cons_succ, List.getElem?_cons_zero]; rfl) (Or.inl ⟨by rfl, ?_⟩) (by assumption) ?_
      rotate_left
      · ((intro w hSw; (try dsimp only at hSw); go_simp); (try with_reducible rfl))
      try simp only [Act.put, List.foldl_cons, List.foldl_nil, List.setIfInBounds_toArray, List.set_cons_zero, List.set_cons_succ]
      refine Gd.WT_take 15 (v := ?_) (by simp only [List.getElem?_toArray, List.getElem?_cons_succ, List.getElem?_cons_zero]; rfl) (Or.inl ⟨by rfl, ?_⟩) (by assumption) ?_
      rotate_left
      · ((intro w hSw; (try dsimp only at hSw); go_simp); (try with_reducible rfl))
      try simp only [Act.put, List.foldl_cons, List.foldl_nil, List.setIfInBounds_toArray, List.set_cons_zero, List.set_cons_succ]
      refine Gd.WT_take 16 (v := ?_) (by simp only [List.getElem?_toArray, List.getElem?_cons_succ, List.getElem?_cons_zero]; rfl) (Or.inl ⟨by rfl, ?_⟩) (by assumption) ?_
      rotate_left
      · ((intro w hSw; (try dsimp only at hSw); go_simp); (try with_reducible rfl))
      try simp only [Act.put, List.foldl_cons, List.foldl_nil, List.setIfInBounds_toArray, List.set_cons_zero, List.set_cons_succ]
      refine Gd.WT_take 17 (v := ?_) (by simp only [List.getElem?_toArray, List.getElem?_cons_succ, List.getElem?_cons_zero]; rfl) (Or.inl ⟨by rfl, ?_⟩) (by assumption) ?_
      rotate_left
      · ((intro w hSw; (try dsimp only at hSw); go_simp); (try with_reducible rfl))
      try simp only [Act.put, List.foldl_cons, List.foldl_nil, List.setIfInBounds_toArray, List.set_cons_zero, List.set_cons_succ]
      cases sk
      rotate_left
      · refine Gd.WT_passes (by assumption) 18 [none, none, some true, some true, none, none, none, some true, some true, none, none, none, some true, some true, none, none, none, some true, some true, none, none, none, none, none, none, none, none, none, none, some true, some true, none, none, none, none, none, none, some true, some true, none, none, none, none, none, none, some true] [(some 44, undef), (some 45, undef), (some 46, .bool true), (some 47, .bool true), (some 48, undef), (some 49, undef), (some 50, undef), (some 51, .bool true), (some 52, .bool true), (some 53, undef), (some 54, undef), (some 55, undef), (some 56, .bool true), (some 57, .bool true), (some 58, undef), (some 59, undef), (some 60, undef), (some 61, .bool true), (some 62, .bool true), (some 63, undef), (some 64, undef), (some 65, undef), (some 66, undef), (some 67, undef), (some 68, undef), (some 69, undef), (some 70, undef), (some 71, undef), (some 72, undef), (some 73, .bool true), (some 74, .bool true), (some 75, undef), (some 76, undef), (some 77, undef), (some 78, undef), (some 79, undef), (some 80, undef), (some 81, .bool true), (some 82, .bool true), (some 83, undef), (some 84, undef), (some 85, undef), (some 86, undef), (some 87, undef), (some 88, undef), (some 89, .bool true)] 64 _ (by kernel_rfl) (by kernel_rfl) rfl ?_
        simp only [Act.put, List.foldl_cons, List.foldl_nil, List.setIfInBounds_toArray, List.set_cons_zero, List.set_cons_succ]
        refine Gd.WT_end (by exact Nat.le_refl 64) ?_
        go_wp2_with fail
        go_meet
        case rel => exact ⟨true, rfl, by simp, by assumption⟩
      refine Gd.WT_take 18 (v := ?_) (by simp only [List.getElem?_toArray, List.getElem?_cons_succ, List.getElem?_cons_zero]; rfl) (Or.inl ⟨by rfl, ?_⟩) (by assumption) ?_
      rotate_left
      · ((intro w hSw; (try dsimp only at hSw); go_simp); (try with_reducible rfl))
      try simp only [Act.put, List.foldl_cons, List.foldl_nil, List.setIfInBounds_toArray, List.set_cons_zero, List.set_cons_succ]
      refine Gd.WT_take 19 (v := ?_) (by simp only [List.getElem?_toArray, List.getElem?_cons_succ, List.getElem?_cons_zero]; rfl) (Or.inl ⟨by rfl, ?_⟩) (by assumption) ?_
      rotate_left
      · ((intro w hSw; (try dsimp only at hSw); go_simp); (try with_reducible rfl))
      try simp only [Act.put, List.foldl_cons, List.foldl_nil, List.setIfInBounds_toArray, List.set_cons_zero, List.set_cons_succ]
      refine Gd.WT_take 20 (v := ?_) (by simp only [List.getElem?_toArray, List.getElem?_cons_succ, List.getElem?_cons_zero]; rfl) (Or.inl ⟨by rfl, ?_⟩) (by assumption) ?_
      rotate_left
      · ((intro w hSw; (try dsimp only at hSw); go_simp); (try with_reducible rfl))
      try simp only [Act.put, List.foldl_cons, List.foldl_nil, List.setIfInBounds_toArray, List.set_cons_zero, List.set_cons_succ]
      refine Gd.WT_take 21 (v := ?_) (by simp only [List.getElem?_toArray, List.getElem?_cons_succ, List.getElem?_cons_zero]; rfl) (Or.inl ⟨by rfl, ?_⟩) (by assumption) ?_
      rotate_left
      · ((intro w hSw; (try dsimp only at hSw); go_simp); (try with_reducible rfl))
      try simp only [Act.put, List.foldl_cons, List.foldl_nil, List.setIfInBounds_toArray, List.set_cons_zero, List.set_cons_succ]
      cases db
      rotate_left
      · refine Gd.WT_passes (by assumption) 22 [none, none, none, some true, some true, none, none, none, some true, some true, none, none, none, some true, some true, none, none, none, none, none, none, none, none, none, none, some true, some true, none, none, none, none, none, none, some true, some true, none, none, none, none, none, none, some true] [(some 48, undef), (some 49, undef), (some 50, undef), (some 51, .bool true), (some 52, .bool true), (some 53, undef), (some 54, undef), (some 55, undef), (some 56, .bool true), (some 57, .bool true), (some 58, undef), (some 59, undef), (some 60, undef), (some 61, .bool true), (some 62, .bool true), (some 63, undef), (some 64, undef), (some 65, undef), (some 66, undef), (some 67, undef), (some 68, undef), (some 69, undef), (some 70, undef), (some 71, undef), (some 72, undef), (some 73, .bool true), (some 74, .bool true), (some 75, undef), (some 76, undef), (some 77, undef), (some 78, undef), (some 79, undef), (some 80, undef), (some 81, .bool true), (some 82, .bool true), (some 83, undef), (some 84, undef), (some 85, undef), (some 86, undef), (some 87, undef), (some 88, undef), (some 89, .bool true)] 64 _ (by kernel_rfl) (by kernel_rfl) rfl ?_
        simp only [Act.put, List.foldl_cons, List.foldl_nil, List.setIfInBounds_toArray, List.set_cons_zero, List.set_cons_succ]
        refine Gd.WT_end (by exact Nat.le_refl 64) ?_
        go_wp2_with fail
        go_meet
        case rel => exact ⟨true, rfl, by simp, by assumption⟩
      refine Gd.WT_take 22 (v := ?_) (by simp only [List.getElem?_toArray, List.getElem?_cons_succ, List.getElem?_cons_zero]; rfl) (Or.inl ⟨by rfl, ?_⟩) (by assumption) ?_
      rotate_left
      · ((intro w hSw; (try dsimp only at hSw); go_simp); (try with_reducible rfl))
      try simp only [Act.put, List.foldl_cons, List.foldl_nil, List.setIfInBounds_toArray, List.set_cons_zero, List.set_cons_succ]
      refine Gd.WT_take 23 (v := ?_) (by simp only [List.getElem?_toArray, List.getElem?_cons_succ, List.getElem?_cons_zero]; rfl) (Or.inl ⟨by rfl, ?_⟩) (by assumption) ?_
      rotate_left
      · ((intro w hSw; (try dsimp only at hSw); go_simp); (try with_reducible rfl))
      try simp only [Act.put, List.foldl_cons, List.foldl_nil, List.setIfInBounds_toArray, List.set_cons_zero, List.set_cons_succ]
      refine Gd.WT_take 24 (v := ?_) (by simp only [List.getElem?_toArray, List.getElem?_cons_succ, List.getElem?_cons_zero]; rfl) (Or.inl ⟨by rfl, ?_⟩) (by assumption) ?_
      rotate_left
      · ((intro w hSw; (try dsimp only at hSw); go_simp); (try with_reducible rfl))
      try simp only [Act.put, List.foldl_cons, List.foldl_nil, List.setIfInBounds_toArray, List.set_cons_zero, List.set_cons_succ]
      refine Gd.WT_take 25 (v := ?_) (by simp only [List.getElem?_toArray, List.getElem?_cons_succ, List.getElem?_cons_zero]; rfl) (Or.inl ⟨by rfl, ?_⟩) (by assumption) ?_
      rotate_left
      · ((intro w hSw; (try dsimp only at hSw); go_simp); (try with_reducible rfl))
      try simp only [Act.put, List.foldl_cons, List.foldl_nil, List.setIfInBounds_toArray, List.set_cons_zero, List.set_cons_succ]
      refine Gd.WT_take 26 (v := ?_) (by simp only [List.getElem?_toArray, List.getElem?_cons_succ, List.getElem?_cons_zero]; rfl) (Or.inl ⟨by rfl, ?_⟩) (by assumption) ?_
      rotate_left
      · ((intro w hSw; (try dsimp only at hSw); go_simp); (try with_reducible rfl))
      try simp only [Act.put, List.foldl_cons, List.foldl_nil, List.setIfInBounds_toArray, List.set_cons_zero, List.set_cons_succ]
      by_cases hm : most < 700
      all_goals (try simp only [hm, decide_true, decide_false])
      · refine Gd.WT_passes (by assumption) 27 [none, none, none, some true, some true, none, none, none, some true, some true, none, none, none, none, none, none, none, none, none, none, some true, some true, none, none, none, none, none, none, some true, some true, none, none, none, none, none, none, some true] [(some 53, undef), (some 54, undef), (some 55, undef), (some 56, .bool true), (some 57, .bool true), (some 58, undef), (some 59, undef), (some 60, undef), (some 61, .bool true), (some 62, .bool true), (some 63, undef), (some 64, undef), (some 65, undef), (some 66, undef), (some 67, undef), (some 68, undef), (some 69, undef), (some 70, undef), (some 71, undef), (some 72, undef), (some 73, .bool true), (some 74, .bool true), (some 75, undef), (some 76, undef), (some 77, undef), (some 78, undef), (some 79, undef), (some 80, undef), (some 81, .bool true), (some 82, .bool true), (some 83, undef), (some 84, undef), (some 85, undef), (some 86, undef), (some 87, undef), (some 88, undef), (some 89, .bool true)] 64 _ (by kernel_rfl) (by kernel_rfl) rfl ?_
        simp only [Act.put, List.foldl_cons, List.foldl_nil, List.setIfInBounds_toArray, List.set_cons_zero, List.set_cons_succ]
        refine Gd.WT_end (by exact Nat.le_refl 64) ?_
        go_wp2_with fail
        go_meet
        case rel => exact ⟨true, rfl, by simp, by assumption⟩
      refine Gd.WT_take 27 (v := ?_) (by simp only [List.getElem?_toArray, List.getElem?_cons_succ, List.getElem?_cons_zero]; rfl) (Or.inl ⟨by rfl, ?_⟩) (by assumption) ?_
      rotate_left
      · ((intro w hSw; (try dsimp only at hSw); go_simp); (try with_reducible rfl))
      try simp only [Act.put, List.foldl_cons, List.foldl_nil, List.setIfInBounds_toArray, List.set_cons_zero, List.set_cons_succ]
      refine Gd.WT_take 28 (v := ?_) (by simp only [List.getElem?_toArray, List.getElem?_cons_succ, List.getElem?_cons_zero]; rfl) (Or.inl ⟨by rfl, ?_⟩) (by assumption) ?_
      rotate_left
      · ((intro w hSw; (try dsimp only at hSw); go_simp); (try with_reducible rfl))
      try simp only [Act.put, List.foldl_cons, List.foldl_nil, List.setIfInBounds_toArray, List.set_cons_zero, List.set_cons_succ]
      refine Gd.WT_take 29 (v := ?_) (by simp only [List.getElem?_toArray, List.getElem?_cons_succ, List.getElem?_cons_zero]; rfl) (Or.inl ⟨by rfl, ?_⟩) (by assumption) ?_
      rotate_left
      · ((intro w hSw; (try dsimp only at hSw); go_simp); (try with_reducible rfl))
      try simp only [Act.put, List.foldl_cons, List.foldl_nil, List.setIfInBounds_toArray, List.set_cons_zero, List.set_cons_succ]
      refine Gd.WT_take 30 (v := ?_) (by simp only [List.getElem?_toArray, List.getElem?_cons_succ, List.getElem?_cons_zero]; rfl) (Or.inl ⟨by rfl, ?_⟩) (by assumption) ?_
      rotate_left
      · ((intro w hSw; (try dsimp only at hSw); go_simp); (try with_reducible rfl))
      try simp only [Act.put, List.foldl_cons, List.foldl_nil, List.setIfInBounds_toArray, List.set_cons_zero, List.set_cons_succ]
      refine Gd.WT_take 31 (v := ?_) (by simp only [List.getElem?_toArray, List.getElem?_cons_succ, List.getElem?_cons_zero]; rfl) (Or.inl ⟨by rfl, ?_⟩) (by assumption) ?_
      rotate_left
      · ((intro w hSw; (try dsimp only at hSw); go_simp); (try with_reducible rfl))
      try simp only [Act.put, List.foldl_cons, List.foldl_nil, List.setIfInBounds_toArray, List.set_cons_zero, List.set_cons_succ]
      try simp only [hA0]
      refine Gd.WT_take 32 (v := ?_) (by simp only [List.getElem?_toArray, List.getElem?_cons_succ, List.getElem?_cons_zero]; rfl) (Or.inl ⟨by rfl, ?_⟩) (by assumption) ?_
      rotate_left
      · ((intro w hSw; (try dsimp only at hSw); go_simp); (try with_reducible rfl))
      try simp only [Act.put, List.foldl_cons, List.foldl_nil, List.setIfInBounds_toArray, List.set_cons_zero, List.set_cons_succ]
      refine Gd.WT_take 33 (v := ?_) (by simp only [List.getElem?_toArray, List.getElem?_cons_succ, List.getElem?_cons_zero]; rfl) (Or.inl ⟨by rfl, ?_⟩) (by assumption) ?_
      rotate_left
      · ((intro w hSw; (try dsimp only at hSw); go_simp); (try with_reducible rfl))
      try simp only [Act.put, List.foldl_cons, List.foldl_nil, List.setIfInBounds_toArray, List.set_cons_zero, List.set_cons_succ]
      refine Gd.WT_take 34 (v := ?_) (by simp only [List.getElem?_toArray, List.getElem?_cons_succ, List.getElem?_cons_zero]; rfl) (Or.inl ⟨by rfl, ?_⟩) (by assumption) ?_
      rotate_left
      · ((intro w hSw; (try dsimp only at hSw); go_simp); (try with_reducible rfl))
      try simp only [Act.put, List.foldl_cons, List.foldl_nil, List.setIfInBounds_toArray, List.set_cons_zero, List.set_cons_succ]
      refine Gd.WT_take 35 (v := ?_) (by simp only [List.getElem?_toArray, List.getElem?_cons_succ, List.getElem?_cons_zero]; rfl) (Or.inl ⟨by rfl, ?_⟩) (by assumption) ?_
      rotate_left
      · ((intro w hSw; (try dsimp only at hSw); go_simp); (try with_reducible rfl))
      try simp only [Act.put, List.foldl_cons, List.foldl_nil, List.setIfInBounds_toArray, List.set_cons_zero, List.set_cons_succ]
      refine Gd.WT_take 36 (v := ?_) (by simp only [List.getElem?_toArray, List.getElem?_cons_succ, List.getElem?_cons_zero]; rfl) (Or.inl ⟨by rfl, ?_⟩) (by assumption) ?_
      rotate_left
      · ((intro w hSw; (try dsimp only at hSw); go_simp); (try with_reducible rfl))
      try simp only [Act.put, List.foldl_cons, List.foldl_nil, List.setIfInBounds_toArray, List.set_cons_zero, List.set_cons_succ]
      refine Gd.WT_passes (by assumption) 37 [none, none, none, none, none, none, none, none, none, none, some true, some true, none, none, none, none, none, none, some true, some true, none, none, none, none, none, none, some true] [(some 63, undef), (some 64, undef), (some 65, undef), (some 66, undef), (some 67, undef), (some 68, undef), (some 69, undef), (some 70, undef), (some 71, undef), (some 72, undef), (some 73, .bool true), (some 74, .bool true), (some 75, undef), (some 76, undef), (some 77, undef), (some 78, undef), (some 79, undef), (some 80, undef), (some 81, .bool true), (some 82, .bool true), (some 83, undef), (some 84, undef), (some 85, undef), (some 86, undef), (some 87, undef), (some 88, undef), (some 89, .bool true)] 64 _ (by kernel_rfl) (by kernel_rfl) rfl ?_
      simp only [Act.put, List.foldl_cons, List.foldl_nil, List.setIfInBounds_toArray, List.set_cons_zero, List.set_cons_succ]
      refine Gd.WT_end (by exact Nat.le_refl 64) ?_
      go_wp2_with fail
      go_meet
      case rel => exact ⟨true, rfl, by simp, by assumption⟩
    have hB0 : ((Lb : Int) == 0) = false := by simpa using hlb
    obtain ⟨k, rfl⟩ : ∃ k, La = k + 1 := ⟨La - 1, by omega⟩
    have hda : w0.cell? ⟨ga, k, none⟩ = some (.int .i32 dA) := HcA.out (by omega)
    have hdb : w0.cell? ⟨gb, 0, none⟩ = some (.int .i32 dB) := HcB.out (by omega)
    have hga : ga < w0.heap.size := by rcases HGA.out with h | h; exact h; omega
    have hgb : gb < w0.heap.size := by rcases HGB.out with h | h; exact h; omega
    have hwr : IntKind.i64.wrap (((k + 1 : Nat) : Int) - 1) = (k : Int) := by rw [IntKind.wrap_i64]; omega
    have hwr2 : IntKind.i64.wrap (k : Int) = (k : Int) := by rw [IntKind.wrap_i64]; omega
    have hk3 : (k : Int) < (k : Int) + 1 := by omega
    have hA1 : (((k : Int) + 1) == 0) = false := by simp; omega
    have hA2 : ((k : Int) + 1 = 0) = False := by simp; omega
    have hb3 : 0 < Lb := by omega
    have hk1 : (0 : Int) ≤ (k : Int) := by omega
    have hk2 : (k : Int) < ((k + 1 : Nat) : Int) := by omega
    have hb2 : (0 : Int) < (Lb : Int) := by omega
    refine ⟨(fun w' => w'.cell? ⟨w.heap.size, 0, none⟩ = some (.slice D dl.length cd) ∧ w'.cell? ⟨w.heap.size, 1, none⟩ = some (.slice F fl.length cf) ∧ w'.cell? ⟨w.heap.size, 2, none⟩ = some (.bool sk) ∧ w'.cell? ⟨w.heap.size, 3, none⟩ = some (.bool db) ∧ w'.cell? ⟨w.heap.size, 4, none⟩ = some (.int .i64 most) ∧ w'.cell? ⟨ga, k, none⟩ = some (.int .i32 dA) ∧ w'.cell? ⟨gb, 0, none⟩ = some (.int .i32 dB) ∧ Hid (Below w0.heap.size w0 w')), ?_, fun hHeld => ?_⟩
    · (try dsimp only); go_split_ands; refine keepB7 hz2 H2.out hda hdb hga hgb ?_; (first | with_reducible assumption | (repeat' (first | with_reducible assumption | with_reducible exact HS | refine hid_drew ?_)))
    refine Gd.WT_take 0 (v := ?_) (by simp only [List.getElem?_toArray, List.getElem?_cons_succ, List.getElem?_cons_zero]; rfl) (Or.inl ⟨by rfl, ?_⟩) (by assumption) ?_
    rotate_left
    · ((intro w hSw; (try dsimp only at hSw); go_simp); (try with_reducible rfl))
    try simp only [Act.put, List.foldl_cons, List.foldl_nil, List.setIfInBounds_toArray, List.set_cons_zero, List.set_cons_succ]
    refine Gd.WT_call 1 (by simp only [List.getElem?_toArray, List.getElem?_cons_succ, List.getElem?_cons_zero]; rfl) (by as_aux_lemma => kernel_rfl) (fun K hK => ?_)
    go_simp
    (go_at_call 29; go_split_ands; (with_reducible refine (HSP.out _ (Hid.out (by assumption))).mono ?_); rintro e w4a ⟨rfl, hlq'⟩; have hBqa : Hid (Below w0.heap.size w0 w4a) := Lib.hid (hid_trans (Nat.le_refl _) (by assumption) hlq'); clear hlq')
    refine hK.out _ _ ?_ (fun hHeld => ?_)
    · (try dsimp only); go_split_ands; refine keepB7 hz2 H2.out hda hdb hga hgb ?_; (first | with_reducible assumption | (repeat' (first | with_reducible assumption | with_reducible exact HS | refine hid_drew ?_)))
    clear hK K
    try simp only [Act.put, List.foldl_cons, List.foldl_nil, List.setIfInBounds_toArray, List.set_cons_zero, List.set_cons_succ]
    refine Gd.WT_take 2 (v := ?_) (by simp only [List.getElem?_toArray, List.getElem?_cons_succ, List.getElem?_cons_zero]; rfl) (Or.inl ⟨by rfl, ?_⟩) (by assumption) ?_
    rotate_left
    · ((intro w hSw; (try dsimp only at hSw); go_simp); (try with_reducible rfl))
    try simp only [Act.put, List.foldl_cons, List.foldl_nil, List.setIfInBounds_toArray, List.set_cons_zero, List.set_cons_succ]
    refine Gd.WT_take 3 (v := ?_) (by simp only [List.getElem?_toArray, List.getElem?_cons_succ, List.getElem?_cons_zero]; rfl) (Or.inl ⟨by rfl, ?_⟩) (by assumption) ?_
    rotate_left
    · ((intro w hSw; (try dsimp only at hSw); go_simp); (try with_reducible rfl))
    try simp only [Act.put, List.foldl_cons, List.foldl_nil, List.setIfInBounds_toArray, List.set_cons_zero, List.set_cons_succ]
    cases B1
    · refine Gd.WT_passes (by assumption) 4 [none, none, none, some true, some true, none, none, none, some true, some true, none, none, some true, some true, none, none, some true, some true, none, none, none, some true, some true, none, none, none, some true, some true, none, none, none, some true, some true, none, none, none, none, none, none, none, none, none, none, some true, some true, none, none, none, none, none, none, some true, some true, none, none, none, none, none, none, some true] [(some 30, undef), (some 31, undef), (some 32, undef), (some 33, .bool true), (some 34, .bool true), (some 35, undef), (some 36, undef), (some 37, undef), (some 38, .bool true), (some 39, .bool true), (some 40, undef), (some 41, undef), (some 42, .bool true), (some 43, .bool true), (some 44, undef), (some 45, undef), (some 46, .bool true), (some 47, .bool true), (some 48, undef), (some 49, undef), (some 50, undef), (some 51, .bool true), (some 52, .bool true), (some 53, undef), (some 54, undef), (some 55, undef), (some 56, .bool true), (some 57, .bool true), (some 58, undef), (some 59, undef), (some 60, undef), (some 61, .bool true), (some 62, .bool true), (some 63, undef), (some 64, undef), (some 65, undef), (some 66, undef), (some 67, undef), (some 68, undef), (some 69, undef), (some 70, undef), (some 71, undef), (some 72, undef), (some 73, .bool true), (some 74, .bool true), (some 75, undef), (some 76, undef), (some 77, undef), (some 78, undef), (some 79, undef), (some 80, undef), (some 81, .bool true), (some 82, .bool true), (some 83, undef), (some 84, undef), (some 85, undef), (some 86, undef), (some 87, undef), (some 88, undef), (some 89, .bool true)] 64 _ (by kernel_rfl) (by kernel_rfl) rfl ?_
      simp only [Act.put, List.foldl_cons, List.foldl_nil, List.setIfInBounds_toArray, List.set_cons_zero, List.set_cons_succ]
      refine Gd.WT_end (by exact Nat.le_refl 64) ?_
      go_wp2_with fail
      go_meet
      case rel => exact ⟨true, rfl, by simp, by assumption⟩
    refine Gd.WT_take 4 (v := ?_) (by simp only [List.getElem?_toArray, List.getElem?_cons_succ, List.getElem?_cons_zero]; rfl) (Or.inl ⟨by rfl, ?_⟩) (by assumption) ?_
    rotate_left
    · ((intro w hSw; (try dsimp only at hSw); go_simp); (try with_reducible rfl))
    try simp only [Act.put, List.foldl_cons, List.foldl_nil, List.setIfInBounds_toArray, List.set_cons_zero, List.set_cons_succ]
    refine Gd.WT_call 5 (by simp only [List.getElem?_toArray, List.getElem?_cons_succ, List.getElem?_cons_zero]; rfl) (by as_aux_lemma => kernel_rfl) (fun K hK => ?_)
    go_simp
    (go_at_call 24; go_split_ands; (with_reducible refine (HR1.out _ (Hid.out (by assumption))).mono ?_); rintro e w4b ⟨rfl, hlq'⟩; have hBqb : Hid (Below w0.heap.size w0 w4b) := Lib.hid (hid_trans (Nat.le_refl _) (by assumption) hlq'); clear hlq')
    refine hK.out _ _ ?_ (fun hHeld => ?_)
    · (try dsimp only); go_split_ands; refine keepB7 hz2 H2.out hda hdb hga hgb ?_; (first | with_reducible assumption | (repeat' (first | with_reducible assumption | with_reducible exact HS | refine hid_drew ?_)))
    clear hK K
    try simp only [Act.put, List.foldl_cons, List.foldl_nil, List.setIfInBounds_toArray, List.set_cons_zero, List.set_cons_succ]
    refine Gd.WT_take 6 (v := ?_) (by simp only [List.getElem?_toArray, List.getElem?_cons_succ, List.getElem?_cons_zero]; rfl) (Or.inl ⟨by rfl, ?_⟩) (by assumption) ?_
    rotate_left
    · ((intro w hSw; (try dsimp only at hSw); go_simp); (try with_reducible rfl))
    try simp only [Act.put, List.foldl_cons, List.foldl_nil, List.setIfInBounds_toArray, List.set_cons_zero, List.set_cons_succ]
    refine Gd.WT_take 7 (v := ?_) (by simp only [List.getElem?_toArray, List.getElem?_cons_succ, List.getElem?_cons_zero]; rfl) (Or.inl ⟨by rfl, ?_⟩) (by assumption) ?_
    rotate_left
    · ((intro w hSw; (try dsimp only at hSw); go_simp); (try with_reducible rfl))
    try simp only [Act.put, List.foldl_cons, List.foldl_nil, List.setIfInBounds_toArray, List.set_cons_zero, List.set_cons_succ]
    refine Gd.WT_take 8 (v := ?_) (by simp only [List.getElem?_toArray, List.getElem?_cons_succ, List.getElem?_cons_zero]; rfl) (Or.inl ⟨by rfl, ?_⟩) (by assumption) ?_
    rotate_left
    · ((intro w hSw; (try dsimp only at hSw); go_simp); (try with_reducible rfl))
    try simp only [Act.put, List.foldl_cons, List.foldl_nil, List.setIfInBounds_toArray, List.set_cons_zero, List.set_cons_succ]
    cases B2
    · refine Gd.WT_passes (by assumption) 9 [none, none, none, some true, some true, none, none, some true, some true, none, none, some true, some true, none, none, none, some true, some true, none, none, none, some true, some true, none, none, none, some true, some true, none, none, none, none, none, none, none, none, none, none, some true, some true, none, none, none, none, none, none, some true, some true, none, none, none, none, none, none, some true] [(some 35, undef), (some 36, undef), (some 37, undef), (some 38, .bool true), (some 39, .bool true), (some 40, undef), (some 41, undef), (some 42, .bool true), (some 43, .bool true), (some 44, undef), (some 45, undef), (some 46, .bool true), (some 47, .bool true), (some 48, undef), (some 49, undef), (some 50, undef), (some 51, .bool true), (some 52, .bool true), (some 53, undef), (some 54, undef), (some 55, undef), (some 56, .bool true), (some 57, .bool true), (some 58, undef), (some 59, undef), (some 60, undef), (some 61, .bool true), (some 62, .bool true), (some 63, undef), (some 64, undef), (some 65, undef), (some 66, undef), (some 67, undef), (some 68, undef), (some 69, undef), (some 70, undef), (some 71, undef), (some 72, undef), (some 73, .bool true), (some 74, .bool true), (some 75, undef), (some 76, undef), (some 77, undef), (some 78, undef), (some 79, undef), (some 80, undef), (some 81, .bool true), (some 82, .bool true), (some 83, undef), (some 84, undef), (some 85, undef), (some 86, undef), (some 87, undef), (some 88, undef), (some 89, .bool true)] 64 _ (by kernel_rfl) (by kernel_rfl) rfl ?_
      simp only [Act.put, List.foldl_cons, List.foldl_nil, List.setIfInBounds_toArray, List.set_cons_zero, List.set_cons_succ]
      refine Gd.WT_end (by exact Nat.le_refl 64) ?_
      go_wp2_with fail
      go_meet
      case rel => exact ⟨true, rfl, by simp, by assumption⟩
    refine Gd.WT_take 9 (v := ?_) (by simp only [List.getElem?_toArray, List.getElem?_cons_succ, List.getElem?_cons_zero]; rfl) (Or.inl ⟨by rfl, ?_⟩) (by assumption) ?_
    rotate_left
    · ((intro w hSw; (try dsimp only at hSw); go_simp); (try with_reducible rfl))
    try simp only [Act.put, List.foldl_cons, List.foldl_nil, List.setIfInBounds_toArray, List.set_cons_zero, List.set_cons_succ]
    refine Gd.WT_call 10 (by simp only [List.getElem?_toArray, List.getElem?_cons_succ, List.getElem?_cons_zero]; rfl) (by as_aux_lemma => kernel_rfl) (fun K hK => ?_)
    go_simp
    (go_at_call 24; go_split_ands; (with_reducible refine (HR2.out _ (Hid.out (by assumption))).mono ?_); rintro e w4c ⟨rfl, hlq'⟩; have hBqc : Hid (Below w0.heap.size w0 w4c) := Lib.hid (hid_trans (Nat.le_refl _) (by assumption) hlq'); clear hlq')
    refine hK.out _ _ ?_ (fun hHeld => ?_)
    · (try dsimp only); go_split_ands; refine keepB7 hz2 H2.out hda hdb hga hgb ?_; (first | with_reducible assumption | (repeat' (first | with_reducible assumption | with_reducible exact HS | refine hid_drew ?_)))
    clear hK K
    try simp only [Act.put, List.foldl_cons, List.foldl_nil, List.setIfInBounds_toArray, List.set_cons_zero, List.set_cons_succ]
    refine Gd.WT_take 11 (v := ?_) (by simp only [List.getElem?_toArray, List.getElem?_cons_succ, List.getElem?_cons_zero]; rfl) (Or.inl ⟨by rfl, ?_⟩) (by assumption) ?_
    rotate_left
    · ((intro w hSw; (try dsimp only at hSw); go_simp); (try with_reducible rfl))
    try simp only [Act.put, List.foldl_cons, List.foldl_nil, List.setIfInBounds_toArray, List.set_cons_zero, List.set_cons_succ]
    refine Gd.WT_take 12 (v := ?_) (by simp only [List.getElem?_toArray, List.getElem?_cons_succ, List.getElem?_cons_zero]; rfl) (Or.inl ⟨by rfl, ?_⟩) (by assumption) ?_
    rotate_left
    · ((intro w hSw; (try dsimp only at hSw); go_simp); (try with_reducible rfl))
    try simp only [Act.put, List.foldl_cons, List.foldl_nil, List.setIfInBounds_toArray, List.set_cons_zero, List.set_cons_succ]
    refine Gd.WT_take 13 (v := ?_) (by simp only [List.getElem?_toArray, List.getElem?_cons_succ, List.getElem?_cons_zero]; rfl) (Or.inl ⟨by rfl, ?_⟩) (by assumption) ?_
    rotate_left
    · ((intro w hSw; (try dsimp only at hSw); go_simp); (try with_reducible rfl))
    try simp only [Act.put, List.foldl_cons, List.foldl_nil, List.setIfInBounds_toArray, List.set_cons_zero, List.set_cons_succ]
    cases B3
    · refine Gd.WT_passes (by assumption) 14 [none, none, some true, some true, none, none, some true, some true, none, none, none, some true, some true, none, none, none, some true, some true, none, none, none, some true, some true, none, none, none, none, none, none, none, none, none, none, some true, some true, none, none, none, none, none, none, some true, some true, none, none, none, none, none, none, some true] [(some 40, undef), (some 41, undef), (some 42, .bool true), (some 43, .bool true), (some 44, undef), (some 45, undef), (some 46, .bool true), (some 47, .bool true), (some 48, undef), (some 49, undef), (some 50, undef), (some 51, .bool true), (some 52, .bool true), (some 53, undef), (some 54, undef), (some 55, undef), (some 56, .bool true), (some 57, .bool true), (some 58, undef), (some 59, undef), (some 60, undef), (some 61, .bool true), (some 62, .bool true), (some 63, undef), (some 64, undef), (some 65, undef), (some 66, undef), (some 67, undef), (some 68, undef), (some 69, undef), (some 70, undef), (some 71, undef), (some 72, undef), (some 73, .bool true), (some 74, .bool true), (some 75, undef), (some 76, undef), (some 77, undef), (some 78, undef), (some 79, undef), (some 80, undef), (some 81, .bool true), (some 82, .bool true), (some 83, undef), (some 84, undef), (some 85, undef), (some 86, undef), (some 87, undef), (some 88, undef), (some 89, .bool true)] 64 _ (by kernel_rfl) (by kernel_rfl) rfl ?_
      simp only [Act.put, List.foldl_cons, List.foldl_nil, List.setIfInBounds_toArray, List.set_cons_zero, List.set_cons_succ]
      refine Gd.WT_end (by exact Nat.le_refl 64) ?_
      go_wp2_with fail
      go_meet
      case rel => exact ⟨true, rfl, by simp, by assumption⟩
    refine Gd.WT_take 14 (v := ?_) (by simp only [List.getElem?_toArray, List.getElem?_cons_succ, List.getElem?_cons_zero]; rfl) (Or.inl ⟨by rfl, ?_⟩) (by assumption) ?_
    rotate_left
    · ((intro w hSw; (try dsimp only at hSw); go_simp); (try with_reducible rfl))
    try simp only [Act.put, List.foldl_cons, List.foldl_nil, List.setIfInBounds_toArray, List.set_cons_zero, List.set_cons_succ]
    refine Gd.WT_take 15 (v := ?_) (by simp only [List.getElem?_toArray, List.getElem?_cons_succ, List.getElem?_cons_zero]; rfl) (Or.inl ⟨by rfl, ?_⟩) (by assumption) ?_
    rotate_left
    · ((intro w hSw; (try dsimp only at hSw); go_simp); (try with_reducible rfl))
    try simp only [Act.put, List.foldl_cons, List.foldl_nil, List.setIfInBounds_toArray, List.set_cons_zero, List.set_cons_succ]
    refine Gd.WT_take 16 (v := ?_) (by simp only [List.getElem?_toArray, List.getElem?_cons_succ, List.getElem?_cons_zero]; rfl) (Or.inl ⟨by rfl, ?_⟩) (by assumption) ?_
    rotate_left
    · ((intro w hSw; (try dsimp only at hSw); go_simp); (try with_reducible rfl))
    try simp only [Act.put, List.foldl_cons, List.foldl_nil, List.setIfInBounds_toArray, List.set_cons_zero, List.set_cons_succ]
    refine Gd.WT_take 17 (v := ?_) (by simp only [List.getElem?_toArray, List.getElem?_cons_succ, List.getElem?_cons_zero]; rfl) (Or.inl ⟨by rfl, ?_⟩) (by assumption) ?_
    rotate_left
    · ((intro w hSw; (try dsimp only at hSw); go_simp); (try with_reducible rfl))
    try simp only [Act.put, List.foldl_cons, List.foldl_nil, List.setIfInBounds_toArray, List.set_cons_zero, List.set_cons_succ]
    cases sk
    rotate_left
    · refine Gd.WT_passes (by assumption) 18 [none, none, some true, some true, none, none, none, some true, some true, none, none, none, some true, some true, none, none, none, some true, some true, none, none, none, none, none, none, none, none, none, none, some true, some true, none, none, none, none, none, none, some true, some true, none, none, none, none, none, none, some true] [(some 44, undef), (some 45, undef), (some 46, .bool true), (some 47, .bool true), (some 48, undef), (some 49, undef), (some 50, undef), (some 51, .bool true), (some 52, .bool true), (some 53, undef), (some 54, undef), (some 55, undef), (some 56, .bool true), (some 57, .bool true), (some 58, undef), (some 59, undef), (some 60, undef), (some 61, .bool true), (some 62, .bool true), (some 63, undef), (some 64, undef), (some 65, undef), (some 66, undef), (some 67, undef), (some 68, undef), (some 69, undef), (some 70, undef), (some 71, undef), (some 72, undef), (some 73, .bool true), (some 74, .bool true), (some 75, undef), (some 76, undef), (some 77, undef), (some 78, undef), (some 79, undef), (some 80, undef), (some 81, .bool true), (some 82, .bool true), (some 83, undef), (some 84, undef), (some 85, undef), (some 86, undef), (some 87, undef), (some 88, undef), (some 89, .bool true)] 64 _ (by kernel_rfl) (by kernel_rfl) rfl ?_
      simp only [Act.put, List.foldl_cons, List.foldl_nil, List.setIfInBounds_toArray, List.set_cons_zero, List.set_cons_succ]
      refine Gd.WT_end (by exact Nat.le_refl 64) ?_
      go_wp2_with fail
      go_meet
      case rel => exact ⟨true, rfl, by simp, by assumption⟩
    refine Gd.WT_take 18 (v := ?_) (by simp only [List.getElem?_toArray, List.getElem?_cons_succ, List.getElem?_cons_zero]; rfl) (Or.inl ⟨by rfl, ?_⟩) (by assumption) ?_
    rotate_left
    · ((intro w hSw; (try dsimp only at hSw); go_simp); (try with_reducible rfl))
    try simp only [Act.put, List.foldl_cons, List.foldl_nil, List.setIfInBounds_toArray, List.set_cons_zero, List.set_cons_succ]
    refine Gd.WT_take 19 (v := ?_) (by simp only [List.getElem?_toArray, List.getElem?_cons_succ, List.getElem?_cons_zero]; rfl) (Or.inl ⟨by rfl, ?_⟩) (by assumption) ?_
    rotate_left
    · ((intro w hSw; (try dsimp only at hSw); go_simp); (try with_reducible rfl))
    try simp only [Act.put, List.foldl_cons, List.foldl_nil, List.setIfInBounds_toArray, List.set_cons_zero, List.set_cons_succ]
    refine Gd.WT_take 20 (v := ?_) (by simp only [List.getElem?_toArray, List.getElem?_cons_succ, List.getElem?_cons_zero]; rfl) (Or.inl ⟨by rfl, ?_⟩) (by assumption) ?_
    rotate_left
    · ((intro w hSw; (try dsimp only at hSw); go_simp); (try with_reducible rfl))
    try simp only [Act.put, List.foldl_cons, List.foldl_nil, List.setIfInBounds_toArray, List.set_cons_zero, List.set_cons_succ]
    refine Gd.WT_take 21 (v := ?_) (by simp only [List.getElem?_toArray, List.getElem?_cons_succ, List.getElem?_cons_zero]; rfl) (Or.inl ⟨by rfl, ?_⟩) (by assumption) ?_
    rotate_left
    · ((intro w hSw; (try dsimp only at hSw); go_simp); (try with_reducible rfl))
    try simp only [Act.put, List.foldl_cons, List.foldl_nil, List.setIfInBounds_toArray, List.set_cons_zero, List.set_cons_succ]
    cases db
    rotate_left
    · refine Gd.WT_passes (by assumption) 22 [none, none, none, some true, some true, none, none, none, some true, some true, none, none, none, some true, some true, none, none, none, none, none, none, none, none, none, none, some true, some true, none, none, none, none, none, none, some true, some true, none, none, none, none, none, none, some true] [(some 48, undef), (some 49, undef), (some 50, undef), (some 51, .bool true), (some 52, .bool true), (some 53, undef), (some 54, undef), (some 55, undef), (some 56, .bool true), (some 57, .bool true), (some 58, undef), (some 59, undef), (some 60, undef), (some 61, .bool true), (some 62, .bool true), (some 63, undef), (some 64, undef), (some 65, undef), (some 66, undef), (some 67, undef), (some 68, undef), (some 69, undef), (some 70, undef), (some 71, undef), (some 72, undef), (some 73, .bool true), (some 74, .bool true), (some 75, undef), (some 76, undef), (some 77, undef), (some 78, undef), (some 79, undef), (some 80, undef), (some 81, .bool true), (some 82, .bool true), (some 83, undef), (some 84, undef), (some 85, undef), (some 86, undef), (some 87, undef), (some 88, undef), (some 89, .bool true)] 64 _ (by kernel_rfl) (by kernel_rfl) rfl ?_
      simp only [Act.put, List.foldl_cons, List.foldl_nil, List.setIfInBounds_toArray, List.set_cons_zero, List.set_cons_succ]
      refine Gd.WT_end (by exact Nat.le_refl 64) ?_
      go_wp2_with fail
      go_meet
      case rel => exact ⟨true, rfl, by simp, by assumption⟩
    refine Gd.WT_take 22 (v := ?_) (by simp only [List.getElem?_toArray, List.getElem?_cons_succ, List.getElem?_cons_zero]; rfl) (Or.inl ⟨by rfl, ?_⟩) (by assumption) ?_
    rotate_left
    · ((intro w hSw; (try dsimp only at hSw); go_simp); (try with_reducible rfl))
    try simp only [Act.put, List.foldl_cons, List.foldl_nil, List.setIfInBounds_toArray, List.set_cons_zero, List.set_cons_succ]
    refine Gd.WT_take 23 (v := ?_) (by simp only [List.getElem?_toArray, List.getElem?_cons_succ, List.getElem?_cons_zero]; rfl) (Or.inl ⟨by rfl, ?_⟩) (by assumption) ?_
    rotate_left
    · ((intro w hSw; (try dsimp only at hSw); go_simp); (try with_reducible rfl))
    try simp only [Act.put, List.foldl_cons, List.foldl_nil, List.setIfInBounds_toArray, List.set_cons_zero, List.set_cons_succ]
    refine Gd.WT_take 24 (v := ?_) (by simp only [List.getElem?_toArray, List.getElem?_cons_succ, List.getElem?_cons_zero]; rfl) (Or.inl ⟨by rfl, ?_⟩) (by assumption) ?_
    rotate_left
    · ((intro w hSw; (try dsimp only at hSw); go_simp); (try with_reducible rfl))
    try simp only [Act.put, List.foldl_cons, List.foldl_nil, List.setIfInBounds_toArray, List.set_cons_zero, List.set_cons_succ]
    refine Gd.WT_take 25 (v := ?_) (by simp only [List.getElem?_toArray, List.getElem?_cons_succ, List.getElem?_cons_zero]; rfl) (Or.inl ⟨by rfl, ?_⟩) (by assumption) ?_
    rotate_left
    · ((intro w hSw; (try dsimp only at hSw); go_simp); (try with_reducible rfl))
    try simp only [Act.put, List.foldl_cons, List.foldl_nil, List.setIfInBounds_toArray, List.set_cons_zero, List.set_cons_succ]
    refine Gd.WT_take 26 (v := ?_) (by simp only [List.getElem?_toArray, List.getElem?_cons_succ, List.getElem?_cons_zero]; rfl) (Or.inl ⟨by rfl, ?_⟩) (by assumption) ?_
    rotate_left
    · ((intro w hSw; (try dsimp only at hSw); go_simp); (try with_reducible rfl))
    try simp only [Act.put, List.foldl_cons, List.foldl_nil, List.setIfInBounds_toArray, List.set_cons_zero, List.set_cons_succ]
    by_cases hm : most < 700
    all_goals (try simp only [hm, decide_true, decide_false])
    · refine Gd.WT_passes (by assumption) 27 [none, none, none, some true, some true, none, none, none, some true, some true, none, none, none, none, none, none, none, none, none, none, some true, some true, none, none, none, none, none, none, some true, some true, none, none, none, none, none, none, some true] [(some 53, undef), (some 54, undef), (some 55, undef), (some 56, .bool true), (some 57, .bool true), (some 58, undef), (some 59, undef), (some 60, undef), (some 61, .bool true), (some 62, .bool true), (some 63, undef), (some 64, undef), (some 65, undef), (some 66, undef), (some 67, undef), (some 68, undef), (some 69, undef), (some 70, undef), (some 71, undef), (some 72, undef), (some 73, .bool true), (some 74, .bool true), (some 75, undef), (some 76, undef), (some 77, undef), (some 78, undef), (some 79, undef), (some 80, undef), (some 81, .bool true), (some 82, .bool true), (some 83, undef), (some 84, undef), (some 85, undef), (some 86, undef), (some 87, undef), (some 88, undef), (some 89, .bool true)] 64 _ (by kernel_rfl) (by kernel_rfl) rfl ?_
      simp only [Act.put, List.foldl_cons, List.foldl_nil, List.setIfInBounds_toArray, List.set_cons_zero, List.set_cons_succ]
      refine Gd.WT_end (by exact Nat.le_refl 64) ?_
      go_wp2_with fail
      go_meet
      case rel => exact ⟨true, rfl, by simp, by assumption⟩
    refine Gd.WT_take 27 (v := ?_) (by simp only [List.getElem?_toArray, List.getElem?_cons_succ, List.getElem?_cons_zero]; rfl) (Or.inl ⟨by rfl, ?_⟩) (by assumption) ?_
    rotate_left
    · ((intro w hSw; (try dsimp only at hSw); go_simp); (try with_reducible rfl))
    try simp only [Act.put, List.foldl_cons, List.foldl_nil, List.setIfInBounds_toArray, List.set_cons_zero, List.set_cons_succ]
    refine Gd.WT_take 28 (v := ?_) (by simp only [List.getElem?_toArray, List.getElem?_cons_succ, List.getElem?_cons_zero]; rfl) (Or.inl ⟨by rfl, ?_⟩) (by assumption) ?_
    rotate_left
    · ((intro w hSw; (try dsimp only at hSw); go_simp); (try with_reducible rfl))
    try simp only [Act.put, List.foldl_cons, List.foldl_nil, List.setIfInBounds_toArray, List.set_cons_zero, List.set_cons_succ]
    refine Gd.WT_take 29 (v := ?_) (by simp only [List.getElem?_toArray, List.getElem?_cons_succ, List.getElem?_cons_zero]; rfl) (Or.inl ⟨by rfl, ?_⟩) (by assumption) ?_
    rotate_left
    · ((intro w hSw; (try dsimp only at hSw); go_simp); (try with_reducible rfl))
    try simp only [Act.put, List.foldl_cons, List.foldl_nil, List.setIfInBounds_toArray, List.set_cons_zero, List.set_cons_succ]
    refine Gd.WT_take 30 (v := ?_) (by simp only [List.getElem?_toArray, List.getElem?_cons_succ, List.getElem?_cons_zero]; rfl) (Or.inl ⟨by rfl, ?_⟩) (by assumption) ?_
    rotate_left
    · ((intro w hSw; (try dsimp only at hSw); go_simp); (try with_reducible rfl))
    try simp only [Act.put, List.foldl_cons, List.foldl_nil, List.setIfInBounds_toArray, List.set_cons_zero, List.set_cons_succ]
    refine Gd.WT_take 31 (v := ?_) (by simp only [List.getElem?_toArray, List.getElem?_cons_succ, List.getElem?_cons_zero]; rfl) (Or.inl ⟨by rfl, ?_⟩) (by assumption) ?_
    rotate_left
    · ((intro w hSw; (try dsimp only at hSw); go_simp); (try with_reducible rfl))
    try simp only [Act.put, List.foldl_cons, List.foldl_nil, List.setIfInBounds_toArray, List.set_cons_zero, List.set_cons_succ]
    try simp only [hA0]
    try simp only [hA1]
    try simp only [hA2, decide_false]
    refine Gd.WT_take 32 (v := ?_) (by simp only [List.getElem?_toArray, List.getElem?_cons_succ, List.getElem?_cons_zero]; rfl) (Or.inl ⟨by rfl, ?_⟩) (by assumption) ?_
    rotate_left
    · ((intro w hSw; (try dsimp only at hSw); go_simp); (try with_reducible rfl))
    try simp only [Act.put, List.foldl_cons, List.foldl_nil, List.setIfInBounds_toArray, List.set_cons_zero, List.set_cons_succ]
    refine Gd.WT_take 33 (v := ?_) (by simp only [List.getElem?_toArray, List.getElem?_cons_succ, List.getElem?_cons_zero]; rfl) (Or.inl ⟨by rfl, ?_⟩) (by assumption) ?_
    rotate_left
    · ((intro w hSw; (try dsimp only at hSw); go_simp); (try with_reducible rfl))
    try simp only [Act.put, List.foldl_cons, List.foldl_nil, List.setIfInBounds_toArray, List.set_cons_zero, List.set_cons_succ]
    refine Gd.WT_take 34 (v := ?_) (by simp only [List.getElem?_toArray, List.getElem?_cons_succ, List.getElem?_cons_zero]; rfl) (Or.inl ⟨by rfl, ?_⟩) (by assumption) ?_
    rotate_left
    · ((intro w hSw; (try dsimp only at hSw); go_simp); (try with_reducible rfl))
    try simp only [Act.put, List.foldl_cons, List.foldl_nil, List.setIfInBounds_toArray, List.set_cons_zero, List.set_cons_succ]
    refine Gd.WT_take 35 (v := ?_) (by simp only [List.getElem?_toArray, List.getElem?_cons_succ, List.getElem?_cons_zero]; rfl) (Or.inl ⟨by rfl, ?_⟩) (by assumption) ?_
    rotate_left
    · ((intro w hSw; (try dsimp only at hSw); go_simp); (try with_reducible rfl))
    try simp only [Act.put, List.foldl_cons, List.foldl_nil, List.setIfInBounds_toArray, List.set_cons_zero, List.set_cons_succ]
    refine Gd.WT_take 36 (v := ?_) (by simp only [List.getElem?_toArray, List.getElem?_cons_succ, List.getElem?_cons_zero]; rfl) (Or.inl ⟨by rfl, ?_⟩) (by assumption) ?_
    rotate_left
    · ((intro w hSw; (try dsimp only at hSw); go_simp); (try with_reducible rfl))
    try simp only [Act.put, List.foldl_cons, List.foldl_nil, List.setIfInBounds_toArray, List.set_cons_zero, List.set_cons_succ]
    try simp only [hB0]
    refine Gd.WT_take 37 (v := ?_) (by simp only [List.getElem?_toArray, List.getElem?_cons_succ, List.getElem?_cons_zero]; rfl) (Or.inl ⟨by rfl, ?_⟩) (by assumption) ?_
    rotate_left
    · ((intro w hSw; (try dsimp only at hSw); go_simp); (try with_reducible rfl))
    try simp only [Act.put, List.foldl_cons, List.foldl_nil, List.setIfInBounds_toArray, List.set_cons_zero, List.set_cons_succ]
    refine Gd.WT_take 38 (v := ?_) (by simp only [List.getElem?_toArray, List.getElem?_cons_succ, List.getElem?_cons_zero]; rfl) (Or.inl ⟨by rfl, ?_⟩) (by assumption) ?_
    rotate_left
    · ((intro w hSw; (try dsimp only at hSw); go_simp); (try with_reducible rfl))
    try simp only [Act.put, List.foldl_cons, List.foldl_nil, List.setIfInBounds_toArray, List.set_cons_zero, List.set_cons_succ]
    refine Gd.WT_take 39 (v := ?_) (by simp only [List.getElem?_toArray, List.getElem?_cons_succ, List.getElem?_cons_zero]; rfl) (Or.inl ⟨by rfl, ?_⟩) (by assumption) ?_
    rotate_left
    · ((intro w hSw; (try dsimp only at hSw); go_simp); (try with_reducible rfl))
    try simp only [Act.put, List.foldl_cons, List.foldl_nil, List.setIfInBounds_toArray, List.set_cons_zero, List.set_cons_succ]
    refine Gd.WT_take 40 (v := ?_) (by simp only [List.getElem?_toArray, List.getElem?_cons_succ, List.getElem?_cons_zero]; rfl) (Or.inl ⟨by rfl, ?_⟩) (by assumption) ?_
    rotate_left
    · ((intro w hSw; (try dsimp only at hSw); go_simp); (try with_reducible rfl))
    try simp only [Act.put, List.foldl_cons, List.foldl_nil, List.setIfInBounds_toArray, List.set_cons_zero, List.set_cons_succ]
    refine Gd.WT_take 41 (v := ?_) (by simp only [List.getElem?_toArray, List.getElem?_cons_succ, List.getElem?_cons_zero]; rfl) (Or.inl ⟨by rfl, ?_⟩) (by assumption) ?_
    rotate_left
    · ((intro w hSw; (try dsimp only at hSw); go_simp); (try with_reducible rfl))
    try simp only [Act.put, List.foldl_cons, List.foldl_nil, List.setIfInBounds_toArray, List.set_cons_zero, List.set_cons_succ]
    refine Gd.WT_take 42 (v := ?_) (by simp only [List.getElem?_toArray, List.getElem?_cons_succ, List.getElem?_cons_zero]; rfl) (Or.inl ⟨by rfl, ?_⟩) (by assumption) ?_
    rotate_left
    · ((intro w hSw; (try dsimp only at hSw); go_simp); (try with_reducible rfl))
    try simp only [Act.put, List.foldl_cons, List.foldl_nil, List.setIfInBounds_toArray, List.set_cons_zero, List.set_cons_succ]
    refine Gd.WT_take 43 (v := ?_) (by simp only [List.getElem?_toArray, List.getElem?_cons_succ, List.getElem?_cons_zero]; rfl) (Or.inl ⟨by rfl, ?_⟩) (by assumption) ?_
    rotate_left
    · ((intro w hSw; (try dsimp only at hSw); go_simp); (try with_reducible rfl))
    try simp only [Act.put, List.foldl_cons, List.foldl_nil, List.setIfInBounds_toArray, List.set_cons_zero, List.set_cons_succ]
    refine Gd.WT_take 44 (v := ?_) (by simp only [List.getElem?_toArray, List.getElem?_cons_succ, List.getElem?_cons_zero]; rfl) (Or.inl ⟨by rfl, ?_⟩) (by assumption) ?_
    rotate_left
    · ((intro w hSw; (try dsimp only at hSw); go_simp); (try with_reducible rfl))
    try simp only [Act.put, List.foldl_cons, List.foldl_nil, List.setIfInBounds_toArray, List.set_cons_zero, List.set_cons_succ]
    refine Gd.WT_call 45 (by simp only [List.getElem?_toArray, List.getElem?_cons_succ, List.getElem?_cons_zero]; rfl) (by as_aux_lemma => kernel_rfl) (fun K hK => ?_)
    go_simp
    (go_at_call 30; go_split_ands; (with_reducible refine (HH1.out _ (Hid.out (by assumption))).mono ?_); rintro e w4d ⟨rfl, hlq'⟩; have hBqd : Hid (Below w0.heap.size w0 w4d) := Lib.hid (hid_trans (Nat.le_refl _) (by assumption) hlq'); clear hlq')
    refine hK.out _ _ ?_ (fun hHeld => ?_)
    · (try dsimp only); go_split_ands; refine keepB7 hz2 H2.out hda hdb hga hgb ?_; (first | with_reducible assumption | (repeat' (first | with_reducible assumption | with_reducible exact HS | refine hid_drew ?_)))
    clear hK K
    try simp only [Act.put, List.foldl_cons, List.foldl_nil, List.setIfInBounds_toArray, List.set_cons_zero, List.set_cons_succ]
    refine Gd.WT_take 46 (v := ?_) (by simp only [List.getElem?_toArray, List.getElem?_cons_succ, List.getElem?_cons_zero]; rfl) (Or.inl ⟨by rfl, ?_⟩) (by assumption) ?_
    rotate_left
    · ((intro w hSw; (try dsimp only at hSw); go_simp); (try with_reducible rfl))
    try simp only [Act.put, List.foldl_cons, List.foldl_nil, List.setIfInBounds_toArray, List.set_cons_zero, List.set_cons_succ]
    refine Gd.WT_take 47 (v := ?_) (by simp only [List.getElem?_toArray, List.getElem?_cons_succ, List.getElem?_cons_zero]; rfl) (Or.inl ⟨by rfl, ?_⟩) (by assumption) ?_
    rotate_left
    · ((intro w hSw; (try dsimp only at hSw); go_simp); (try with_reducible rfl))
    try simp only [Act.put, List.foldl_cons, List.foldl_nil, List.setIfInBounds_toArray, List.set_cons_zero, List.set_cons_succ]
    refine Gd.WT_take 48 (v := ?_) (by simp only [List.getElem?_toArray, List.getElem?_cons_succ, List.getElem?_cons_zero]; rfl) (Or.inl ⟨by rfl, ?_⟩) (by assumption) ?_
    rotate_left
    · ((intro w hSw; (try dsimp only at hSw); go_simp); (try with_reducible rfl))
    try simp only [Act.put, List.foldl_cons, List.foldl_nil, List.setIfInBounds_toArray, List.set_cons_zero, List.set_cons_succ]
    cases B4
    · refine Gd.WT_passes (by assumption) 49 [none, none, none, none, none, none, some true, some true, none, none, none, none, none, none, some true] [(some 75, undef), (some 76, undef), (some 77, undef), (some 78, undef), (some 79, undef), (some 80, undef), (some 81, .bool true), (some 82, .bool true), (some 83, undef), (some 84, undef), (some 85, undef), (some 86, undef), (some 87, undef), (some 88, undef), (some 89, .bool true)] 64 _ (by kernel_rfl) (by kernel_rfl) rfl ?_
      simp only [Act.put, List.foldl_cons, List.foldl_nil, List.setIfInBounds_toArray, List.set_cons_zero, List.set_cons_succ]
      refine Gd.WT_end (by exact Nat.le_refl 64) ?_
      go_wp2_with fail
      go_meet
      case rel => exact ⟨true, rfl, by simp, by assumption⟩
    refine Gd.WT_take 49 (v := ?_) (by simp only [List.getElem?_toArray, List.getElem?_cons_succ, List.getElem?_cons_zero]; rfl) (Or.inl ⟨by rfl, ?_⟩) (by assumption) ?_
    rotate_left
    · ((intro w hSw; (try dsimp only at hSw); go_simp); (try with_reducible rfl))
    try simp only [Act.put, List.foldl_cons, List.foldl_nil, List.setIfInBounds_toArray, List.set_cons_zero, List.set_cons_succ]
    refine Gd.WT_take 50 (v := ?_) (by simp only [List.getElem?_toArray, List.getElem?_cons_succ, List.getElem?_cons_zero]; rfl) (Or.inl ⟨by rfl, ?_⟩) (by assumption) ?_
    rotate_left
    · ((intro w hSw; (try dsimp only at hSw); go_simp); (try with_reducible rfl))
    try simp only [Act.put, List.foldl_cons, List.foldl_nil, List.setIfInBounds_toArray, List.set_cons_zero, List.set_cons_succ]
    refine Gd.WT_take 51 (v := ?_) (by simp only [List.getElem?_toArray, List.getElem?_cons_succ, List.getElem?_cons_zero]; rfl) (Or.inl ⟨by rfl, ?_⟩) (by assumption) ?_
    rotate_left
    · ((intro w hSw; (try dsimp only at hSw); go_simp); (try with_reducible rfl))
    try simp only [Act.put, List.foldl_cons, List.foldl_nil, List.setIfInBounds_toArray, List.set_cons_zero, List.set_cons_succ]
    refine Gd.WT_take 52 (v := ?_) (by simp only [List.getElem?_toArray, List.getElem?_cons_succ, List.getElem?_cons_zero]; rfl) (Or.inl ⟨by rfl, ?_⟩) (by assumption) ?_
    rotate_left
    · ((intro w hSw; (try dsimp only at hSw); go_simp); (try with_reducible rfl))
    try simp only [Act.put, List.foldl_cons, List.foldl_nil, List.setIfInBounds_toArray, List.set_cons_zero, List.set_cons_succ]
    refine Gd.WT_take 53 (v := ?_) (by simp only [List.getElem?_toArray, List.getElem?_cons_succ, List.getElem?_cons_zero]; rfl) (Or.inl ⟨by rfl, ?_⟩) (by assumption) ?_
    rotate_left
    · ((intro w hSw; (try dsimp only at hSw); go_simp); (try with_reducible rfl))
    try simp only [Act.put, List.foldl_cons, List.foldl_nil, List.setIfInBounds_toArray, List.set_cons_zero, List.set_cons_succ]
    refine Gd.WT_call 54 (by simp only [List.getElem?_toArray, List.getElem?_cons_succ, List.getElem?_cons_zero]; rfl) (by as_aux_lemma => kernel_rfl) (fun K hK => ?_)
    go_simp
    (go_at_call 30; go_split_ands; (with_reducible refine (HH2.out _ (Hid.out (by assumption))).mono ?_); rintro e w4e ⟨rfl, hlq'⟩; have hBqe : Hid (Below w0.heap.size w0 w4e) := Lib.hid (hid_trans (Nat.le_refl _) (by assumption) hlq'); clear hlq')
    refine hK.out _ _ ?_ (fun hHeld => ?_)
    · (try dsimp only); go_split_ands; refine keepB7 hz2 H2.out hda hdb hga hgb ?_; (first | with_reducible assumption | (repeat' (first | with_reducible assumption | with_reducible exact HS | refine hid_drew ?_)))
    clear hK K
    try simp only [Act.put, List.foldl_cons, List.foldl_nil, List.setIfInBounds_toArray, List.set_cons_zero, List.set_cons_succ]
    refine Gd.WT_take 55 (v := ?_) (by simp only [List.getElem?_toArray, List.getElem?_cons_succ, List.getElem?_cons_zero]; rfl) (Or.inl ⟨by rfl, ?_⟩) (by assumption) ?_
    rotate_left
    · ((intro w hSw; (try dsimp only at hSw); go_simp); (try with_reducible rfl))
    try simp only [Act.put, List.foldl_cons, List.foldl_nil, List.setIfInBounds_toArray, List.set_cons_zero, List.set_cons_succ]
    refine Gd.WT_take 56 (v := ?_) (by simp only [List.getElem?_toArray, List.getElem?_cons_succ, List.getElem?_cons_zero]; rfl) (Or.inl ⟨by rfl, ?_⟩) (by assumption) ?_
    rotate_left
    · ((intro w hSw; (try dsimp only at hSw); go_simp); (try with_reducible rfl))
    try simp only [Act.put, List.foldl_cons, List.foldl_nil, List.setIfInBounds_toArray, List.set_cons_zero, List.set_cons_succ]
    cases B5
    rotate_left
    · refine Gd.WT_passes (by assumption) 57 [none, none, none, none, none, none, some true] [(some 83, undef), (some 84, undef), (some 85, undef), (some 86, undef), (some 87, undef), (some 88, undef), (some 89, .bool true)] 64 _ (by kernel_rfl) (by kernel_rfl) rfl ?_
      simp only [Act.put, List.foldl_cons, List.foldl_nil, List.setIfInBounds_toArray, List.set_cons_zero, List.set_cons_succ]
      refine Gd.WT_end (by exact Nat.le_refl 64) ?_
      go_wp2_with fail
      go_meet
      case rel => exact ⟨true, rfl, by simp, by assumption⟩
    refine Gd.WT_take 57 (v := ?_) (by simp only [List.getElem?_toArray, List.getElem?_cons_succ, List.getElem?_cons_zero]; rfl) (Or.inl ⟨by rfl, ?_⟩) (by assumption) ?_
    rotate_left
    · ((intro w hSw; (try dsimp only at hSw); go_simp); (try with_reducible rfl))
    try simp only [Act.put, List.foldl_cons, List.foldl_nil, List.setIfInBounds_toArray, List.set_cons_zero, List.set_cons_succ]
    refine Gd.WT_take 58 (v := ?_) (by simp only [List.getElem?_toArray, List.getElem?_cons_succ, List.getElem?_cons_zero]; rfl) (Or.inl ⟨by rfl, ?_⟩) (by assumption) ?_
    rotate_left
    · ((intro w hSw; (try dsimp only at hSw); go_simp); (try with_reducible rfl))
    try simp only [Act.put, List.foldl_cons, List.foldl_nil, List.setIfInBounds_toArray, List.set_cons_zero, List.set_cons_succ]
    refine Gd.WT_take 59 (v := ?_) (by simp only [List.getElem?_toArray, List.getElem?_cons_succ, List.getElem?_cons_zero]; rfl) (Or.inl ⟨by rfl, ?_⟩) (by assumption) ?_
    rotate_left
    · ((intro w hSw; (try dsimp only at hSw); go_simp); (try with_reducible rfl))
    try simp only [Act.put, List.foldl_cons, List.foldl_nil, List.setIfInBounds_toArray, List.set_cons_zero, List.set_cons_succ]
    refine Gd.WT_take 60 (v := ?_) (by simp only [List.getElem?_toArray, List.getElem?_cons_succ, List.getElem?_cons_zero]; rfl) (Or.inl ⟨by rfl, ?_⟩) (by assumption) ?_
    rotate_left
    · ((intro w hSw; (try dsimp only at hSw); go_simp); (try with_reducible rfl))
    try simp only [Act.put, List.foldl_cons, List.foldl_nil, List.setIfInBounds_toArray, List.set_cons_zero, List.set_cons_succ]
    refine Gd.WT_take 61 (v := ?_) (by simp only [List.getElem?_toArray, List.getElem?_cons_succ, List.getElem?_cons_zero]; rfl) (Or.inl ⟨by rfl, ?_⟩) (by assumption) ?_
    rotate_left
    · ((intro w hSw; (try dsimp only at hSw); go_simp); (try with_reducible rfl))
    try simp only [Act.put, List.foldl_cons, List.foldl_nil, List.setIfInBounds_toArray, List.set_cons_zero, List.set_cons_succ]
    refine Gd.WT_call 62 (by simp only [List.getElem?_toArray, List.getElem?_cons_succ, List.getElem?_cons_zero]; rfl) (by as_aux_lemma => kernel_rfl) (fun K hK => ?_)
    go_simp
    (go_at_call 30; go_split_ands; (with_reducible refine (HH3.out _ (Hid.out (by assumption))).mono ?_); rintro e w4f ⟨rfl, hlq'⟩; have hBqf : Hid (Below w0.heap.size w0 w4f) := Lib.hid (hid_trans (Nat.le_refl _) (by assumption) hlq'); clear hlq')
    refine hK.out _ _ ?_ (fun hHeld => ?_)
    · (try dsimp only); go_split_ands; refine keepB7 hz2 H2.out hda hdb hga hgb ?_; (first | with_reducible assumption | (repeat' (first | with_reducible assumption | with_reducible exact HS | refine hid_drew ?_)))
    clear hK K
    try simp only [Act.put, List.foldl_cons, List.foldl_nil, List.setIfInBounds_toArray, List.set_cons_zero, List.set_cons_succ]
    refine Gd.WT_take 63 (v := ?_) (by simp only [List.getElem?_toArray, List.getElem?_cons_succ, List.getElem?_cons_zero]; rfl) (Or.inl ⟨by rfl, ?_⟩) (by assumption) ?_
    rotate_left
    · ((intro w hSw; (try dsimp only at hSw); go_simp); (try with_reducible rfl))
    try simp only [Act.put, List.foldl_cons, List.foldl_nil, List.setIfInBounds_toArray, List.set_cons_zero, List.set_cons_succ]
    refine Gd.WT_end (by exact Nat.le_refl 64) ?_
    go_wp2_with fail
    go_meet
    case rel => exact ⟨B6, rfl, fun h6 => ⟨trivial, trivial, trivial, trivial, trivial, by omega, by omega, by omega, trivial, trivial, h6⟩, by assumption⟩
  case rest =>
    obtain ⟨bb, rfl, hf, HBx⟩ := hcut
    have HWc := Lib.hid (HW2.out.trans (HBx.out.mono hw2))
    have hwc := HWc.out.size
    cases bb
    rotate_left
    · go_wp2_with fail
      refine (HP.out _).mono ?_
      rintro e w6 ⟨rfl, hb6⟩
      have HW6 := Lib.hid (HWc.out.trans (hb6.mono hwc))
      clear hb6
      go_wp2_with fail
      go_ret
      exact ⟨by simp, HW6.out⟩
    obtain ⟨rfl, rfl, rfl, rfl, rfl, hm, hla1, hlb1, rfl, rfl, rfl⟩ := hf rfl
    have hgs := HB2.out rfl
    have hgt := HB3.out rfl
    have hcat := SS_two dl fl most s t La Lb hgs.1 hgt.1 hgs.2 hm (by rw [HRA.out]; exact HLA.out) (by rw [HRB.out]; exact HLB.out) hla1 hlb1 (by rw [HRA.out, HDA.out]; exact HB4.out) (by rw [HRB.out, HDB.out]; exact HB5.out) (by rw [HRB.out, HDB.out]; exact HB6.out)
    have hlx := SS_len dl fl most s hgs.1
    have hly := SS_len dl fl most t hgt.1
    have hDw := Kd.C_below HD.out HW2.out
    have hFw := Kd.C_below HF.out HW2.out
    have hTw := tabs_keep HT.out HW2.out
    obtain ⟨X, hX⟩ : ∃ X, SS dl fl most s = X := ⟨_, rfl⟩
    obtain ⟨Y, hY⟩ : ∃ Y, SS dl fl most t = Y := ⟨_, rfl⟩
    obtain ⟨Z, hZ⟩ : ∃ Z, X ++ Y = Z := ⟨_, rfl⟩
    rw [hX, hY, hZ] at hcat
    have hXl : X.length ≤ 300 := by rw [← hX]; omega
    have hYl : Y.length ≤ 300 := by rw [← hY]; omega
    have hcz : (s ++ t).size ≤ 2147483647 := by rw [ByteArray.size_append]; omega
    have hcz2 : ¬ (9223372036854775807 < s.size + t.size) := by omega
    have HS1 := Lib.hid (fun W (hb : Below w0.heap.size w0 W) => sents_call (cd := cd) (cf := cf) (s ++ t) hcz hcat hDw hFw hdl hfl hTw hb)
    have HS2 := Lib.hid (fun W (hb : Below w0.heap.size w0 W) => sents_call (cd := cd) (cf := cf) s (by omega) hX hDw hFw hdl hfl hTw hb)
    have HS3 := Lib.hid (fun W (hb : Below w0.heap.size w0 W) => sents_call (cd := cd) (cf := cf) t (by omega) hY hDw hFw hdl hfl hTw hb)
    clear hf hDw hFw hTw hX hY hcat hlx hly hgs hgt HB1 HB2 HB3 HB4 HB5 HB6 HDA HDB HRA HRB HLA HLB HcA HcB HGA HGB HSP HR1 HR2 HH1 HH2 HH3
    go_upto_region 6 with fail
    refine wp_region_held_drew (S := (fun w' => w'.cell? ⟨w.heap.size, 0, none⟩ = some (.slice D dl.length cd) ∧ w'.cell? ⟨w.heap.size, 1, none⟩ = some (.slice F fl.length cf) ∧ w'.cell? ⟨w.heap.size, 2, none⟩ = some (.bool false) ∧ w'.cell? ⟨w.heap.size, 3, none⟩ = some (.bool false) ∧ w'.cell? ⟨w.heap.size, 4, none⟩ = some (.int .i64 most) ∧ Hid (Below w0.heap.size w0 w'))) (by kernel_rfl) ?_ (fun hHeld => ?_)
    · (try dsimp only); go_split_ands; exact keepB5 hz2 H2.out (hid_drew HBx)
    have HBwd := hid_drew HBx
    generalize wc.drew = wd at HBwd hHeld ⊢
    refine Gd.take 0 (v := ?_) (by simp only [List.getElem?_toArray, List.getElem?_cons_succ, List.getElem?_cons_zero]; rfl) (by kernel_rfl) (by kernel_rfl) (by kernel_rfl) (fun _ _ _ _ h => h) (Or.inl ⟨by rfl, ?_⟩) (by assumption) ?_
    rotate_left
    · ((intro w hSw; (try dsimp only at hSw); go_simp); (try with_reducible rfl))
    try simp only [Act.put, List.foldl_cons, List.foldl_nil, List.setIfInBounds_toArray, List.set_cons_zero, List.set_cons_succ]
    refine Gd.take 1 (v := ?_) (by simp only [List.getElem?_toArray, List.getElem?_cons_succ, List.getElem?_cons_zero]; rfl) (by kernel_rfl) (by kernel_rfl) (by kernel_rfl) (fun _ _ _ _ h => h) (Or.inl ⟨by rfl, ?_⟩) (by assumption) ?_
    rotate_left
    · ((intro w hSw; (try dsimp only at hSw); go_simp); (try with_reducible rfl))
    try simp only [Act.put, List.foldl_cons, List.foldl_nil, List.setIfInBounds_toArray, List.set_cons_zero, List.set_cons_succ]
    refine Gd.take 2 (v := ?_) (by simp only [List.getElem?_toArray, List.getElem?_cons_succ, List.getElem?_cons_zero]; rfl) (by kernel_rfl) (by kernel_rfl) (by kernel_rfl) (fun _ _ _ _ h => h) (Or.inl ⟨by rfl, ?_⟩) (by assumption) ?_
    rotate_left
    · ((intro w hSw; (try dsimp only at hSw); go_simp); (try with_reducible rfl))
    try simp only [Act.put, List.foldl_cons, List.foldl_nil, List.setIfInBounds_toArray, List.set_cons_zero, List.set_cons_succ]
    refine Gd.take 3 (v := ?_) (by simp only [List.getElem?_toArray, List.getElem?_cons_succ, List.getElem?_cons_zero]; rfl) (by kernel_rfl) (by kernel_rfl) (by kernel_rfl) (fun _ _ _ _ h => h) (Or.inl ⟨by rfl, ?_⟩) (by assumption) ?_
    rotate_left
    · ((intro w hSw; (try dsimp only at hSw); go_simp); (try with_reducible rfl))
    try simp only [Act.put, List.foldl_cons, List.foldl_nil, List.setIfInBounds_toArray, List.set_cons_zero, List.set_cons_succ]
    refine Gd.take 6 (v := ?_) (by simp only [List.getElem?_toArray, List.getElem?_cons_succ, List.getElem?_cons_zero]; rfl) (by kernel_rfl) (by kernel_rfl) (by kernel_rfl) (fun _ _ _ _ h => h) (Or.inl ⟨by rfl, ?_⟩) (by assumption) ?_
    rotate_left
    · ((intro w hSw; (try dsimp only at hSw); go_simp); (try with_reducible rfl))
    try simp only [Act.put, List.foldl_cons, List.foldl_nil, List.setIfInBounds_toArray, List.set_cons_zero, List.set_cons_succ]
    refine Gd.take 7 (v := ?_) (by simp only [List.getElem?_toArray, List.getElem?_cons_succ, List.getElem?_cons_zero]; rfl) (by kernel_rfl) (by kernel_rfl) (by kernel_rfl) (fun _ _ _ _ h => h) (Or.inl ⟨by rfl, ?_⟩) (by assumption) ?_
    rotate_left
    · ((intro w hSw; (try dsimp only at hSw); go_simp); (try with_reducible rfl))
    try simp only [Act.put, List.foldl_cons, List.foldl_nil, List.setIfInBounds_toArray, List.set_cons_zero, List.set_cons_succ]
    refine Gd.take 10 (v := ?_) (by simp only [List.getElem?_toArray, List.getElem?_cons_succ, List.getElem?_cons_zero]; rfl) (by kernel_rfl) (by kernel_rfl) (by kernel_rfl) (fun _ _ _ _ h => h) (Or.inl ⟨by rfl, ?_⟩) (by assumption) ?_
    rotate_left
    · ((intro w hSw; (try dsimp only at hSw); go_simp); (try with_reducible rfl))
    try simp only [Act.put, List.foldl_cons, List.foldl_nil, List.setIfInBounds_toArray, List.set_cons_zero, List.set_cons_succ]
    refine Gd.take 11 (v := ?_) (by simp only [List.getElem?_toArray, List.getElem?_cons_succ, List.getElem?_cons_zero]; rfl) (by kernel_rfl) (by kernel_rfl) (by kernel_rfl) (fun _ _ _ _ h => h) (Or.inl ⟨by rfl, ?_⟩) (by assumption) ?_
    rotate_left
    · ((intro w hSw; (try dsimp only at hSw); go_simp); (try with_reducible rfl))
    try simp only [Act.put, List.foldl_cons, List.foldl_nil, List.setIfInBounds_toArray, List.set_cons_zero, List.set_cons_succ]
    refine wpAnyH_ready (rs := [4, 5]) (by kernel_rfl) (by simp) (AllReadyH.cons (by simp only [List.getElem?_toArray, List.getElem?_cons_succ, List.getElem?_cons_zero]; rfl) (fun K hK => ?_) (AllReadyH.cons (by simp only [List.getElem?_toArray, List.getElem?_cons_succ, List.getElem?_cons_zero]; rfl) (fun K hK => ?_) AllReadyH.nil))
    · go_simp
      (go_at_call 27; go_split_ands; with_reducible refine (HS1.out _ (Hid.out HBwd)).mono ?_)
      rintro e wy1 ⟨v, rfl, hR, hlq⟩
      have HBwy1 := Lib.hid (hid_trans (Nat.le_refl _) HBwd hlq)
      have HOa := Lib.hid (own_of_R hR rfl)
      obtain ⟨Aa, ca, rfl, -, -⟩ := Kd.R_reads hR
      clear hlq hR
      refine hK.out _ _ ?_ (fun hHeld => ?_)
      · (try dsimp only); go_split_ands; exact keepB5 hz2 H2.out HBwy1
      clear hK K
      try simp only [Act.put, List.foldl_cons, List.foldl_nil, List.setIfInBounds_toArray, List.set_cons_zero, List.set_cons_succ]
      refine wpAnyH_ready (rs := [5, 8]) (by kernel_rfl) (by simp) (AllReadyH.cons (by simp only [List.getElem?_toArray, List.getElem?_cons_succ, List.getElem?_cons_zero]; rfl) (fun K hK => ?_) (AllReadyH.cons (by simp only [List.getElem?_toArray, List.getElem?_cons_succ, List.getElem?_cons_zero]; rfl) (fun K hK => ?_) AllReadyH.nil))
      · go_simp
        have HOe := Lib.hid (own_empty wy1)
        have hal := below_alloc (Below.refl wy1.heap.size wy1) (.cells #[] 9)
        have HBwy2 := Lib.hid (hid_trans (Nat.le_refl _) HBwy1 hal)
        have hge := from_new (n := 0) (c := 0) HBwy1 (Nat.le_refl _)
        have HN := Lib.hid (apart_new (n := 0) (c := 0) HOa.out)
        have HOa := Lib.hid (HOa.out.below hal)
        generalize wy1.alloc (.cells #[] 9) = wy2 at hal HOe HBwy2 HOa ⊢
        clear hal
        refine hK.out _ _ ?_ (fun hHeld => ?_)
        · (try dsimp only); go_split_ands; exact keepB5 hz2 H2.out HBwy2
        clear hK K
        try simp only [Act.put, List.foldl_cons, List.foldl_nil, List.setIfInBounds_toArray, List.set_cons_zero, List.set_cons_succ]
        refine wpAnyH_ready (rs := [8]) (by kernel_rfl) (by simp) (AllReadyH.cons (by simp only [List.getElem?_toArray, List.getElem?_cons_succ, List.getElem?_cons_zero]; rfl) (fun K hK => ?_) AllReadyH.nil)
        go_simp
        (go_at_call 27; go_split_ands; with_reducible refine (HS2.out _ (Hid.out HBwy2)).mono ?_)
        rintro e wy3 ⟨v, rfl, hR, hlq⟩
        have HBwy3 := Lib.hid (hid_trans (Nat.le_refl _) HBwy2 hlq)
        have HOb := Lib.hid (own_of_R hR rfl)
        have HOa := Lib.hid (HOa.out.below hlq)
        have HOe := Lib.hid (HOe.out.below hlq)
        obtain ⟨Ab, cb, rfl, -, -⟩ := Kd.R_reads hR
        clear hlq hR
        refine hK.out _ _ ?_ (fun hHeld => ?_)
        · (try dsimp only); go_split_ands; exact keepB5 hz2 H2.out HBwy3
        clear hK K
        try simp only [Act.put, List.foldl_cons, List.foldl_nil, List.setIfInBounds_toArray, List.set_cons_zero, List.set_cons_succ]
        refine wpAnyH_ready (rs := [9]) (by kernel_rfl) (by simp) (AllReadyH.cons (by simp only [List.getElem?_toArray, List.getElem?_cons_succ, List.getElem?_cons_zero]; rfl) (fun K hK => ?_) AllReadyH.nil)
        refine own_step (w0 := w0) w0.heap.size (by rfl) (.tmp 96) (.tmp 99) 45 16 (by rfl) Tryd.underlying45 (by kernel_rfl) (by decide) _ [] X Ab X.length cb (by rfl) (by rfl) HOe.out HOb.out.reads' HBwy3.out hge (szof HBwy3) (by first | omega | (simp; omega)) ?_
        intro v wy4 ho hbq hge hmv
        obtain ⟨h1, h2⟩ := hmv _ _ HOa.out HN.out
        have HOa := Lib.hid h1
        have HN := Lib.hid h2
        rw [List.nil_append] at ho
        have HOx := Lib.hid ho
        have HBwy4 := Lib.hid hbq
        clear hbq hmv h1 h2
        clear ho
        refine hK.out _ _ ?_ (fun hHeld => ?_)
        · (try dsimp only); go_split_ands; exact keepB5 hz2 H2.out HBwy4
        clear hK K
        try simp only [Act.put, List.foldl_cons, List.foldl_nil, List.setIfInBounds_toArray, List.set_cons_zero, List.set_cons_succ]
        refine wpAnyH_ready (rs := [12]) (by kernel_rfl) (by simp) (AllReadyH.cons (by simp only [List.getElem?_toArray, List.getElem?_cons_succ, List.getElem?_cons_zero]; rfl) (fun K hK => ?_) AllReadyH.nil)
        go_simp
        (go_at_call 27; go_split_ands; with_reducible refine (HS3.out _ (Hid.out HBwy4)).mono ?_)
        rintro e wy5 ⟨v, rfl, hR, hlq⟩
        have HBwy5 := Lib.hid (hid_trans (Nat.le_refl _) HBwy4 hlq)
        have HOc := Lib.hid (own_of_R hR rfl)
        have HOa := Lib.hid (HOa.out.below hlq)
        have HOx := Lib.hid (HOx.out.below hlq)
        obtain ⟨Ac, cc, rfl, -, -⟩ := Kd.R_reads hR
        clear hlq hR
        refine hK.out _ _ ?_ (fun hHeld => ?_)
        · (try dsimp only); go_split_ands; exact keepB5 hz2 H2.out HBwy5
        clear hK K
        try simp only [Act.put, List.foldl_cons, List.foldl_nil, List.setIfInBounds_toArray, List.set_cons_zero, List.set_cons_succ]
        refine wpAnyH_ready (rs := [13]) (by kernel_rfl) (by simp) (AllReadyH.cons (by simp only [List.getElem?_toArray, List.getElem?_cons_succ, List.getElem?_cons_zero]; rfl) (fun K hK => ?_) AllReadyH.nil)
        refine own_step (w0 := w0) w0.heap.size (by rfl) (.tmp 100) (.tmp 103) 45 16 (by rfl) Tryd.underlying45 (by kernel_rfl) (by decide) _ X Y Ac Y.length cc (by rfl) (by rfl) HOx.out HOc.out.reads' HBwy5.out hge (szof HBwy5) (by first | omega | (simp; omega)) ?_
        intro v wy6 ho hbq hge hmv
        obtain ⟨h1, h2⟩ := hmv _ _ HOa.out HN.out
        have HOa := Lib.hid h1
        have HN := Lib.hid h2
        rw [hZ] at ho
        have HOz := Lib.hid ho
        have HBwy6 := Lib.hid hbq
        clear hbq hmv h1 h2
        obtain ⟨Az, cz, rfl, -⟩ := ho.reads
        clear ho
        refine hK.out _ _ ?_ (fun hHeld => ?_)
        · (try dsimp only); go_split_ands; exact keepB5 hz2 H2.out HBwy6
        clear hK K
        try simp only [Act.put, List.foldl_cons, List.foldl_nil, List.setIfInBounds_toArray, List.set_cons_zero, List.set_cons_succ]
        refine wpAnyH_ready (rs := [14]) (by kernel_rfl) (by simp) (AllReadyH.cons (by simp only [List.getElem?_toArray, List.getElem?_cons_succ, List.getElem?_cons_zero]; rfl) (fun K hK => ?_) AllReadyH.nil)
        go_simp
        (go_at_call 26; go_split_ands; with_reducible refine (sameStr_any Aa Az ca cz Z Z wy6 HOa.out.reads' HOz.out.reads').mono ?_)
        rintro e wy7 ⟨rfl, hlq⟩
        have HBwy7 := Lib.hid (hid_trans (Nat.le_refl _) HBwy6 hlq)
        clear hlq
        rw [show decide (Z = Z) = true from decide_eq_true rfl]
        refine hK.out _ _ ?_ (fun hHeld => ?_)
        · (try dsimp only); go_split_ands; exact keepB5 hz2 H2.out HBwy7
        clear hK K
        try simp only [Act.put, List.foldl_cons, List.foldl_nil, List.setIfInBounds_toArray, List.set_cons_zero, List.set_cons_succ]
        refine Gd.take 15 (v := ?_) (by simp only [List.getElem?_toArray, List.getElem?_cons_succ, List.getElem?_cons_zero]; rfl) (by kernel_rfl) (by kernel_rfl) (by kernel_rfl) (fun _ _ _ _ h => h) (Or.inl ⟨by rfl, ?_⟩) (by assumption) ?_
        rotate_left
        · ((intro w hSw; (try dsimp only at hSw); go_simp); (try with_reducible rfl))
        try simp only [Act.put, List.foldl_cons, List.foldl_nil, List.setIfInBounds_toArray, List.set_cons_zero, List.set_cons_succ]
        refine wpAnyH_ready (rs := [16]) (by kernel_rfl) (by simp) (AllReadyH.cons (by simp only [List.getElem?_toArray, List.getElem?_cons_succ, List.getElem?_cons_zero]; rfl) (fun K hK => ?_) AllReadyH.nil)
        go_simp
        (go_at_call 25; go_split_ands; with_reducible refine (HP.out _).mono ?_)
        rintro e wy8 ⟨rfl, hlq⟩
        have HBwy8 := Lib.hid (hid_trans (Nat.le_refl _) HBwy7 hlq)
        clear hlq
        refine hK.out _ _ ?_ (fun hHeld => ?_)
        · (try dsimp only); go_split_ands; exact keepB5 hz2 H2.out HBwy8
        clear hK K
        try simp only [Act.put, List.foldl_cons, List.foldl_nil, List.setIfInBounds_toArray, List.set_cons_zero, List.set_cons_succ]
        refine Gd.take 17 (v := ?_) (by simp only [List.getElem?_toArray, List.getElem?_cons_succ, List.getElem?_cons_zero]; rfl) (by kernel_rfl) (by kernel_rfl) (by kernel_rfl) (fun _ _ _ _ h => h) (Or.inl ⟨by rfl, ?_⟩) (by assumption) ?_
        rotate_left
        · ((intro w hSw; (try dsimp only at hSw); go_simp); (try with_reducible rfl))
        try simp only [Act.put, List.foldl_cons, List.foldl_nil, List.setIfInBounds_toArray, List.set_cons_zero, List.set_cons_succ]
        refine Gd.take 18 (v := ?_) (by simp only [List.getElem?_toArray, List.getElem?_cons_succ, List.getElem?_cons_zero]; rfl) (by kernel_rfl) (by kernel_rfl) (by kernel_rfl) (fun _ _ _ _ h => h) (Or.inl ⟨by rfl, ?_⟩) (by assumption) ?_
        rotate_left
        · ((intro w hSw; (try dsimp only at hSw); go_simp); (try with_reducible rfl))
        try simp only [Act.put, List.foldl_cons, List.foldl_nil, List.setIfInBounds_toArray, List.set_cons_zero, List.set_cons_succ]
        refine wpAnyH_done (by kernel_rfl) ?_ _
        go_wp2_with fail
        go_ret
        exact ⟨by simp, HW2.out.trans (HBwy8.out.mono hw2)⟩
      · go_simp
        (go_at_call 27; go_split_ands; with_reducible refine (HS2.out _ (Hid.out HBwy1)).mono ?_)
        rintro e wy2 ⟨v, rfl, hR, hlq⟩
        have HBwy2 := Lib.hid (hid_trans (Nat.le_refl _) HBwy1 hlq)
        have HOb := Lib.hid (own_of_R hR rfl)
        have HOa := Lib.hid (HOa.out.below hlq)
        obtain ⟨Ab, cb, rfl, -, -⟩ := Kd.R_reads hR
        clear hlq hR
        refine hK.out _ _ ?_ (fun hHeld => ?_)
        · (try dsimp only); go_split_ands; exact keepB5 hz2 H2.out HBwy2
        clear hK K
        try simp only [Act.put, List.foldl_cons, List.foldl_nil, List.setIfInBounds_toArray, List.set_cons_zero, List.set_cons_succ]
        refine wpAnyH_ready (rs := [5]) (by kernel_rfl) (by simp) (AllReadyH.cons (by simp only [List.getElem?_toArray, List.getElem?_cons_succ, List.getElem?_cons_zero]; rfl) (fun K hK => ?_) AllReadyH.nil)
        go_simp
        have HOe := Lib.hid (own_empty wy2)
        have hal := below_alloc (Below.refl wy2.heap.size wy2) (.cells #[] 9)
        have HBwy3 := Lib.hid (hid_trans (Nat.le_refl _) HBwy2 hal)
        have hge := from_new (n := 0) (c := 0) HBwy2 (Nat.le_refl _)
        have HN := Lib.hid (apart_new (n := 0) (c := 0) HOa.out)
        have HOa := Lib.hid (HOa.out.below hal)
        have HOb := Lib.hid (HOb.out.below hal)
        generalize wy2.alloc (.cells #[] 9) = wy3 at hal HOe HBwy3 HOa HOb ⊢
        clear hal
        refine hK.out _ _ ?_ (fun hHeld => ?_)
        · (try dsimp only); go_split_ands; exact keepB5 hz2 H2.out HBwy3
        clear hK K
        try simp only [Act.put, List.foldl_cons, List.foldl_nil, List.setIfInBounds_toArray, List.set_cons_zero, List.set_cons_succ]
        refine wpAnyH_ready (rs := [9]) (by kernel_rfl) (by simp) (AllReadyH.cons (by simp only [List.getElem?_toArray, List.getElem?_cons_succ, List.getElem?_cons_zero]; rfl) (fun K hK => ?_) AllReadyH.nil)
        refine own_step (w0 := w0) w0.heap.size (by rfl) (.tmp 96) (.tmp 99) 45 16 (by rfl) Tryd.underlying45 (by kernel_rfl) (by decide) _ [] X Ab X.length cb (by rfl) (by rfl) HOe.out HOb.out.reads' HBwy3.out hge (szof HBwy3) (by first | omega | (simp; omega)) ?_
        intro v wy4 ho hbq hge hmv
        obtain ⟨h1, h2⟩ := hmv _ _ HOa.out HN.out
        have HOa := Lib.hid h1
        have HN := Lib.hid h2
        rw [List.nil_append] at ho
        have HOx := Lib.hid ho
        have HBwy4 := Lib.hid hbq
        clear hbq hmv h1 h2
        clear ho
        refine hK.out _ _ ?_ (fun hHeld => ?_)
        · (try dsimp only); go_split_ands; exact keepB5 hz2 H2.out HBwy4
        clear hK K
        try simp only [Act.put, List.foldl_cons, List.foldl_nil, List.setIfInBounds_toArray, List.set_cons_zero, List.set_cons_succ]
        refine wpAnyH_ready (rs := [12]) (by kernel_rfl) (by simp) (AllReadyH.cons (by simp only [List.getElem?_toArray, List.getElem?_cons_succ, List.getElem?_cons_zero]; rfl) (fun K hK => ?_) AllReadyH.nil)
        go_simp
        (go_at_call 27; go_split_ands; with_reducible refine (HS3.out _ (Hid.out HBwy4)).mono ?_)
        rintro e wy5 ⟨v, rfl, hR, hlq⟩
        have HBwy5 := Lib.hid (hid_trans (Nat.le_refl _) HBwy4 hlq)
        have HOc := Lib.hid (own_of_R hR rfl)
        have HOa := Lib.hid (HOa.out.below hlq)
        have HOx := Lib.hid (HOx.out.below hlq)
        obtain ⟨Ac, cc, rfl, -, -⟩ := Kd.R_reads hR
        clear hlq hR
        refine hK.out _ _ ?_ (fun hHeld => ?_)
        · (try dsimp only); go_split_ands; exact keepB5 hz2 H2.out HBwy5
        clear hK K
        try simp only [Act.put, List.foldl_cons, List.foldl_nil, List.setIfInBounds_toArray, List.set_cons_zero, List.set_cons_succ]
        refine wpAnyH_ready (rs := [13]) (by kernel_rfl) (by simp) (AllReadyH.cons (by simp only [List.getElem?_toArray, List.getElem?_cons_succ, List.getElem?_cons_zero]; rfl) (fun K hK => ?_) AllReadyH.nil)
        refine own_step (w0 := w0) w0.heap.size (by rfl) (.tmp 100) (.tmp 103) 45 16 (by rfl) Tryd.underlying45 (by kernel_rfl) (by decide) _ X Y Ac Y.length cc (by rfl) (by rfl) HOx.out HOc.out.reads' HBwy5.out hge (szof HBwy5) (by first | omega | (simp; omega)) ?_
        intro v wy6 ho hbq hge hmv
        obtain ⟨h1, h2⟩ := hmv _ _ HOa.out HN.out
        have HOa := Lib.hid h1
        have HN := Lib.hid h2
        rw [hZ] at ho
        have HOz := Lib.hid ho
        have HBwy6 := Lib.hid hbq
        clear hbq hmv h1 h2
        obtain ⟨Az, cz, rfl, -⟩ := ho.reads
        clear ho
        refine hK.out _ _ ?_ (fun hHeld => ?_)
        · (try dsimp only); go_split_ands; exact keepB5 hz2 H2.out HBwy6
        clear hK K
        try simp only [Act.put, List.foldl_cons, List.foldl_nil, List.setIfInBounds_toArray, List.set_cons_zero, List.set_cons_succ]
        refine wpAnyH_ready (rs := [14]) (by kernel_rfl) (by simp) (AllReadyH.cons (by simp only [List.getElem?_toArray, List.getElem?_cons_succ, List.getElem?_cons_zero]; rfl) (fun K hK => ?_) AllReadyH.nil)
        go_simp
        (go_at_call 26; go_split_ands; with_reducible refine (sameStr_any Aa Az ca cz Z Z wy6 HOa.out.reads' HOz.out.reads').mono ?_)
        rintro e wy7 ⟨rfl, hlq⟩
        have HBwy7 := Lib.hid (hid_trans (Nat.le_refl _) HBwy6 hlq)
        clear hlq
        rw [show decide (Z = Z) = true from decide_eq_true rfl]
        refine hK.out _ _ ?_ (fun hHeld => ?_)
        · (try dsimp only); go_split_ands; exact keepB5 hz2 H2.out HBwy7
        clear hK K
        try simp only [Act.put, List.foldl_cons, List.foldl_nil, List.setIfInBounds_toArray, List.set_cons_zero, List.set_cons_succ]
        refine Gd.take 15 (v := ?_) (by simp only [List.getElem?_toArray, List.getElem?_cons_succ, List.getElem?_cons_zero]; rfl) (by kernel_rfl) (by kernel_rfl) (by kernel_rfl) (fun _ _ _ _ h => h) (Or.inl ⟨by rfl, ?_⟩) (by assumption) ?_
        rotate_left
        · ((intro w hSw; (try dsimp only at hSw); go_simp); (try with_reducible rfl))
        try simp only [Act.put, List.foldl_cons, List.foldl_nil, List.setIfInBounds_toArray, List.set_cons_zero, List.set_cons_succ]
        refine wpAnyH_ready (rs := [16]) (by kernel_rfl) (by simp) (AllReadyH.cons (by simp only [List.getElem?_toArray, List.getElem?_cons_succ, List.getElem?_cons_zero]; rfl) (fun K hK => ?_) AllReadyH.nil)
        go_simp
        (go_at_call 25; go_split_ands; with_reducible refine (HP.out _).mono ?_)
        rintro e wy8 ⟨rfl, hlq⟩
        have HBwy8 := Lib.hid (hid_trans (Nat.le_refl _) HBwy7 hlq)
        clear hlq
        refine hK.out _ _ ?_ (fun hHeld => ?_)
        · (try dsimp only); go_split_ands; exact keepB5 hz2 H2.out HBwy8
        clear hK K
        try simp only [Act.put, List.foldl_cons, List.foldl_nil, List.setIfInBounds_toArray, List.set_cons_zero, List.set_cons_succ]
        refine Gd.take 17 (v := ?_) (by simp only [List.getElem?_toArray, List.getElem?_cons_succ, List.getElem?_cons_zero]; rfl) (by kernel_rfl) (by kernel_rfl) (by kernel_rfl) (fun _ _ _ _ h => h) (Or.inl ⟨by rfl, ?_⟩) (by assumption) ?_
        rotate_left
        · ((intro w hSw; (try dsimp only at hSw); go_simp); (try with_reducible rfl))
        try simp only [Act.put, List.foldl_cons, List.foldl_nil, List.setIfInBounds_toArray, List.set_cons_zero, List.set_cons_succ]
        refine Gd.take 18 (v := ?_) (by simp only [List.getElem?_toArray, List.getElem?_cons_succ, List.getElem?_cons_zero]; rfl) (by kernel_rfl) (by kernel_rfl) (by kernel_rfl) (fun _ _ _ _ h => h) (Or.inl ⟨by rfl, ?_⟩) (by assumption) ?_
        rotate_left
        · ((intro w hSw; (try dsimp only at hSw); go_simp); (try with_reducible rfl))
        try simp only [Act.put, List.foldl_cons, List.foldl_nil, List.setIfInBounds_toArray, List.set_cons_zero, List.set_cons_succ]
        refine wpAnyH_done (by kernel_rfl) ?_ _
        go_wp2_with fail
        go_ret
        exact ⟨by simp, HW2.out.trans (HBwy8.out.mono hw2)⟩
    · go_simp
      have HOe := Lib.hid (own_empty wd)
      have hal := below_alloc (Below.refl wd.heap.size wd) (.cells #[] 9)
      have HBwy1 := Lib.hid (hid_trans (Nat.le_refl _) HBwd hal)
      have hge := from_new (n := 0) (c := 0) HBwd (Nat.le_refl _)
      generalize wd.alloc (.cells #[] 9) = wy1 at hal HOe HBwy1  ⊢
      clear hal
      refine hK.out _ _ ?_ (fun hHeld => ?_)
      · (try dsimp only); go_split_ands; exact keepB5 hz2 H2.out HBwy1
      clear hK K
      try simp only [Act.put, List.foldl_cons, List.foldl_nil, List.setIfInBounds_toArray, List.set_cons_zero, List.set_cons_succ]
      refine wpAnyH_ready (rs := [4]) (by kernel_rfl) (by simp) (AllReadyH.cons (by simp only [List.getElem?_toArray, List.getElem?_cons_succ, List.getElem?_cons_zero]; rfl) (fun K hK => ?_) AllReadyH.nil)
      go_simp
      (go_at_call 27; go_split_ands; with_reducible refine (HS1.out _ (Hid.out HBwy1)).mono ?_)
      rintro e wy2 ⟨v, rfl, hR, hlq⟩
      have HBwy2 := Lib.hid (hid_trans (Nat.le_refl _) HBwy1 hlq)
      have HOa := Lib.hid (own_of_R hR rfl)
      have HN := Lib.hid (apart_of (own_from_R hR) HOe.out)
      have HOe := Lib.hid (HOe.out.below hlq)
      obtain ⟨Aa, ca, rfl, -, -⟩ := Kd.R_reads hR
      clear hlq hR
      refine hK.out _ _ ?_ (fun hHeld => ?_)
      · (try dsimp only); go_split_ands; exact keepB5 hz2 H2.out HBwy2
      clear hK K
      try simp only [Act.put, List.foldl_cons, List.foldl_nil, List.setIfInBounds_toArray, List.set_cons_zero, List.set_cons_succ]
      refine wpAnyH_ready (rs := [8]) (by kernel_rfl) (by simp) (AllReadyH.cons (by simp only [List.getElem?_toArray, List.getElem?_cons_succ, List.getElem?_cons_zero]; rfl) (fun K hK => ?_) AllReadyH.nil)
      go_simp
      (go_at_call 27; go_split_ands; with_reducible refine (HS2.out _ (Hid.out HBwy2)).mono ?_)
      rintro e wy3 ⟨v, rfl, hR, hlq⟩
      have HBwy3 := Lib.hid (hid_trans (Nat.le_refl _) HBwy2 hlq)
      have HOb := Lib.hid (own_of_R hR rfl)
      have HOe := Lib.hid (HOe.out.below hlq)
      have HOa := Lib.hid (HOa.out.below hlq)
      obtain ⟨Ab, cb, rfl, -, -⟩ := Kd.R_reads hR
      clear hlq hR
      refine hK.out _ _ ?_ (fun hHeld => ?_)
      · (try dsimp only); go_split_ands; exact keepB5 hz2 H2.out HBwy3
      clear hK K
      try simp only [Act.put, List.foldl_cons, List.foldl_nil, List.setIfInBounds_toArray, List.set_cons_zero, List.set_cons_succ]
      refine wpAnyH_ready (rs := [9]) (by kernel_rfl) (by simp) (AllReadyH.cons (by simp only [List.getElem?_toArray, List.getElem?_cons_succ, List.getElem?_cons_zero]; rfl) (fun K hK => ?_) AllReadyH.nil)
      refine own_step (w0 := w0) w0.heap.size (by rfl) (.tmp 96) (.tmp 99) 45 16 (by rfl) Tryd.underlying45 (by kernel_rfl) (by decide) _ [] X Ab X.length cb (by rfl) (by rfl) HOe.out HOb.out.reads' HBwy3.out hge (szof HBwy3) (by first | omega | (simp; omega)) ?_
      intro v wy4 ho hbq hge hmv
      obtain ⟨h1, h2⟩ := hmv _ _ HOa.out HN.out
      have HOa := Lib.hid h1
      have HN := Lib.hid h2
      rw [List.nil_append] at ho
      have HOx := Lib.hid ho
      have HBwy4 := Lib.hid hbq
      clear hbq hmv h1 h2
      clear ho
      refine hK.out _ _ ?_ (fun hHeld => ?_)
      · (try dsimp only); go_split_ands; exact keepB5 hz2 H2.out HBwy4
      clear hK K
      try simp only [Act.put, List.foldl_cons, List.foldl_nil, List.setIfInBounds_toArray, List.set_cons_zero, List.set_cons_succ]
      refine wpAnyH_ready (rs := [12]) (by kernel_rfl) (by simp) (AllReadyH.cons (by simp only [List.getElem?_toArray, List.getElem?_cons_succ, List.getElem?_cons_zero]; rfl) (fun K hK => ?_) AllReadyH.nil)
      go_simp
      (go_at_call 27; go_split_ands; with_reducible refine (HS3.out _ (Hid.out HBwy4)).mono ?_)
      rintro e wy5 ⟨v, rfl, hR, hlq⟩
      have HBwy5 := Lib.hid (hid_trans (Nat.le_refl _) HBwy4 hlq)
      have HOc := Lib.hid (own_of_R hR rfl)
      have HOa := Lib.hid (HOa.out.below hlq)
      have HOx := Lib.hid (HOx.out.below hlq)
      obtain ⟨Ac, cc, rfl, -, -⟩ := Kd.R_reads hR
      clear hlq hR
      refine hK.out _ _ ?_ (fun hHeld => ?_)
      · (try dsimp only); go_split_ands; exact keepB5 hz2 H2.out HBwy5
      clear hK K
      try simp only [Act.put, List.foldl_cons, List.foldl_nil, List.setIfInBounds_toArray, List.set_cons_zero, List.set_cons_succ]
      refine wpAnyH_ready (rs := [13]) (by kernel_rfl) (by simp) (AllReadyH.cons (by simp only [List.getElem?_toArray, List.getElem?_cons_succ, List.getElem?_cons_zero]; rfl) (fun K hK => ?_) AllReadyH.nil)
      refine own_step (w0 := w0) w0.heap.size (by rfl) (.tmp 100) (.tmp 103) 45 16 (by rfl) Tryd.underlying45 (by kernel_rfl) (by decide) _ X Y Ac Y.length cc (by rfl) (by rfl) HOx.out HOc.out.reads' HBwy5.out hge (szof HBwy5) (by first | omega | (simp; omega)) ?_
      intro v wy6 ho hbq hge hmv
      obtain ⟨h1, h2⟩ := hmv _ _ HOa.out HN.out
      have HOa := Lib.hid h1
      have HN := Lib.hid h2
      rw [hZ] at ho
      have HOz := Lib.hid ho
      have HBwy6 := Lib.hid hbq
      clear hbq hmv h1 h2
      obtain ⟨Az, cz, rfl, -⟩ := ho.reads
      clear ho
      refine hK.out _ _ ?_ (fun hHeld => ?_)
      · (try dsimp only); go_split_ands; exact keepB5 hz2 H2.out HBwy6
      clear hK K
      try simp only [Act.put, List.foldl_cons, List.foldl_nil, List.setIfInBounds_toArray, List.set_cons_zero, List.set_cons_succ]
      refine wpAnyH_ready (rs := [14]) (by kernel_rfl) (by simp) (AllReadyH.cons (by simp only [List.getElem?_toArray, List.getElem?_cons_succ, List.getElem?_cons_zero]; rfl) (fun K hK => ?_) AllReadyH.nil)
      go_simp
      (go_at_call 26; go_split_ands; with_reducible refine (sameStr_any Aa Az ca cz Z Z wy6 HOa.out.reads' HOz.out.reads').mono ?_)
      rintro e wy7 ⟨rfl, hlq⟩
      have HBwy7 := Lib.hid (hid_trans (Nat.le_refl _) HBwy6 hlq)
      clear hlq
      rw [show decide (Z = Z) = true from decide_eq_true rfl]
      refine hK.out _ _ ?_ (fun hHeld => ?_)
      · (try dsimp only); go_split_ands; exact keepB5 hz2 H2.out HBwy7
      clear hK K
      try simp only [Act.put, List.foldl_cons, List.foldl_nil, List.setIfInBounds_toArray, List.set_cons_zero, List.set_cons_succ]
      refine Gd.take 15 (v := ?_) (by simp only [List.getElem?_toArray, List.getElem?_cons_succ, List.getElem?_cons_zero]; rfl) (by kernel_rfl) (by kernel_rfl) (by kernel_rfl) (fun _ _ _ _ h => h) (Or.inl ⟨by rfl, ?_⟩) (by assumption) ?_
      rotate_left
      · ((intro w hSw; (try dsimp only at hSw); go_simp); (try with_reducible rfl))
      try simp only [Act.put, List.foldl_cons, List.foldl_nil, List.setIfInBounds_toArray, List.set_cons_zero, List.set_cons_succ]
      refine wpAnyH_ready (rs := [16]) (by kernel_rfl) (by simp) (AllReadyH.cons (by simp only [List.getElem?_toArray, List.getElem?_cons_succ, List.getElem?_cons_zero]; rfl) (fun K hK => ?_) AllReadyH.nil)
      go_simp
      (go_at_call 25; go_split_ands; with_reducible refine (HP.out _).mono ?_)
      rintro e wy8 ⟨rfl, hlq⟩
      have HBwy8 := Lib.hid (hid_trans (Nat.le_refl _) HBwy7 hlq)
      clear hlq
      refine hK.out _ _ ?_ (fun hHeld => ?_)
      · (try dsimp only); go_split_ands; exact keepB5 hz2 H2.out HBwy8
      clear hK K
      try simp only [Act.put, List.foldl_cons, List.foldl_nil, List.setIfInBounds_toArray, List.set_cons_zero, List.set_cons_succ]
      refine Gd.take 17 (v := ?_) (by simp only [List.getElem?_toArray, List.getElem?_cons_succ, List.getElem?_cons_zero]; rfl) (by kernel_rfl) (by kernel_rfl) (by kernel_rfl) (fun _ _ _ _ h => h) (Or.inl ⟨by rfl, ?_⟩) (by assumption) ?_
      rotate_left
      · ((intro w hSw; (try dsimp only at hSw); go_simp); (try with_reducible rfl))
      try simp only [Act.put, List.foldl_cons, List.foldl_nil, List.setIfInBounds_toArray, List.set_cons_zero, List.set_cons_succ]
      refine Gd.take 18 (v := ?_) (by simp only [List.getElem?_toArray, List.getElem?_cons_succ, List.getElem?_cons_zero]; rfl) (by kernel_rfl) (by kernel_rfl) (by kernel_rfl) (fun _ _ _ _ h => h) (Or.inl ⟨by rfl, ?_⟩) (by assumption) ?_
      rotate_left
      · ((intro w hSw; (try dsimp only at hSw); go_simp); (try with_reducible rfl))
      try simp only [Act.put, List.foldl_cons, List.foldl_nil, List.setIfInBounds_toArray, List.set_cons_zero, List.set_cons_succ]
      refine wpAnyH_done (by kernel_rfl) ?_ _
      go_wp2_with fail
      go_ret
      exact ⟨by simp, HW2.out.trans (HBwy8.out.mono hw2)⟩

theorem tabs_two {W : World} (h : laidMetH Tryd.prog Rows.fnSentencesTwoRow.laid W) : Lib.Utf8Tabs 1 2 W := by
  rw [MakeChecks.laidMetH_plain _ _ _ (by kernel_rfl)] at h
  exact tabs_of h (.tail _ (.tail _ (.head _))) (.head _)
end Go.Proofs.YtaniafohcaiedaaDoor.Sn
