/-
  The walk of laws.FnMetaBack.
-/
import Derived.Test.YtaniafohcaiedaaDoorMd
import Derived.Test.YtaniafohcaiedaaDoorAs
import Derived.Test.YtaniafohcaiedaaDoorGd
import Derived.Deep.RegionHeld3
import Derived.Deep.Cut
set_option linter.unusedVariables false
set_option linter.unusedSimpArgs false
namespace Go.Proofs.YtaniafohcaiedaaDoor.M
open Go.RowKit Go.Proofs.YtaniafohcaiedaaDoor.K Go.Proofs.YtaniafohcaiedaaDoorW.PrintWords Go.Maps Go.Sort

theorem szof {B : Nat} {w0 w : World} (h : Hid (Below B w0 w)) : w0.heap.size ≤ w.heap.size := h.out.size
theorem hid_trans {B : Nat} {w0 w w1 : World} (hB : B ≤ w0.heap.size) (h : Hid (Below B w0 w)) (k : Below w.heap.size w w1) : Below B w0 w1 := below_then h.out (Nat.le_trans hB h.out.size) k
theorem hid_drew {B : Nat} {w0 w : World} (h : Hid (Below B w0 w)) : Hid (Below B w0 w.drew) := Lib.hid h.out.drew
theorem keepM0 {w0 w1 : World} {g : Nat} {a b : Value} {t : TypeId} (h0 : w0.heap[g]? = some (.cells #[a, b] t (0, 0))) (hg : g < w0.heap.size) (h : Hid (Below w0.heap.size w0 w1)) :
    w1.cell? ⟨g, 0, none⟩ = some a ∧ w1.cell? ⟨g, 1, none⟩ = some b ∧ Hid (Below w0.heap.size w0 w1) := by
  have hb := (h.out.block g hg).trans h0
  exact ⟨cell_of_heap hb 0, cell_of_heap hb 1, h⟩
theorem keepM1 {w0 w1 : World} {g : Nat} {a b x : Value} {t : TypeId} {ad : Addr} (h0 : w0.heap[g]? = some (.cells #[a, b] t (0, 0))) (hx : w0.cell? ad = some x) (hxl : ad.block < w0.heap.size) (hg : g < w0.heap.size) (h : Hid (Below w0.heap.size w0 w1)) :
    w1.cell? ⟨g, 0, none⟩ = some a ∧ w1.cell? ⟨g, 1, none⟩ = some b ∧ w1.cell? ad = some x ∧ Hid (Below w0.heap.size w0 w1) := by
  obtain ⟨h1, h2, h3⟩ := keepM0 h0 hg h
  exact ⟨h1, h2, (h.out.cell hxl).trans hx, h⟩
theorem C_of_src {w : World} {g : Nat} {bs : List Int} (h : Src w ⟨g, 0, none⟩ bs) (hl : bs.length ≤ 9223372036854775807) : (Kd.int .u8).C w (some ⟨g, 0, none⟩) bs.length bs := by
  refine ⟨rfl, hl, fun _ => ⟨_, rfl, fun j p hp => ⟨[.int .u8 p], rfl, rfl, fun i u hu => ?_⟩⟩⟩
  cases i with
  | zero =>
    simp at hu
    subst hu
    have := h j (.int .u8 p) (by simp [nums, hp])
    have e1 : (Kd.int .u8).sz = 1 := rfl
    rw [e1, Nat.mul_one, Nat.add_zero]
    exact this
  | succ i => simp at hu
set_option maxHeartbeats 8000000 in
set_option maxRecDepth 5000 in
theorem metaBack_walk (A : Option Addr) (c : Nat) (l : List Mk) (n : Nat) (hn : n < 256) (w : World) (hcap : l.length ≤ c) (hC : kMk.C w A l.length l) :
    Calls Tryd.prog 11 #[.slice A l.length c, .int .u8 n] w fun e w' => e = .returned (.bool true) ∧ Below w.heap.size w w' := by
  have hm := hC.2.1
  have HC := Lib.hid hC
  have HMD := Lib.hid marked_any
  clear hC
  go_enter Tryd.func11, Tryd.ntmps11
  go_wp2_with fail
  refine (fits11_any A c l w HC.out).mono ?_
  rintro e w1 ⟨b, rfl, hb, hb1⟩
  have HB := Lib.hid hb
  have HL1 := Lib.hid hb1
  have hs1 := hb1.size
  clear hb hb1
  cases b
  · go_wp2_with fail
    go_ret
    exact ⟨by simp, HL1.out⟩
  obtain ⟨hl31, h31⟩ := HB.out rfl
  have H31 := Lib.hid h31
  clear HB h31
  go_wp2_with fail
  go_loopw [5, 21] (fun v5 i wr => ∃ k : Nat, k ≤ l.length ∧ i = .int .i64 k ∧ Hid (Asc (l.take k)) ∧ Hid (∀ m ∈ l.take k, (0 ≤ m.2 ∧ m.2 ≤ 100) ∧ m.1.size ≤ 60) ∧ Hid (Kd.string.R 9 wr w1.heap.size (fun _ => True) v5 ((l.take k).map fun m => m.1)) ∧ Hid (Below w1.heap.size w1 wr)) (fun _ i _ => l.length - (intOf i).toNat)
  case atStart => exact ⟨0, Nat.zero_le _, rfl, Lib.hid List.Pairwise.nil, Lib.hid (by simp), Lib.hid (Kd.R_nil _ _ _ _ _), Lib.hid (Below.refl _ _)⟩
  case round =>
    obtain ⟨k, hk, rfl, hasc, hval, hR, hbel⟩ := hrel
    have hzr := hbel.out.size
    have HLr := Lib.hid (HL1.out.trans (hbel.out.mono hs1))
    by_cases hlt : k < l.length
    · obtain ⟨ad, rfl, h0, h1⟩ := marks_at (Kd.C_below HC.out HLr.out) k hlt
      obtain ⟨As, cs, rfl, hcs, hCs⟩ := Kd.R_reads hR.out
      have hln : ((l.take k).map fun m => m.1).length = k := by rw [List.length_map, List.length_take]; omega
      have HT := Lib.hid (show l.take (k + 1) = l.take k ++ [l[k]] by rw [List.take_succ_eq_append_getElem hlt])
      generalize l[k] = m at h0 h1 HT
      obtain ⟨s, v⟩ := m
      simp only at h0 h1
      obtain ⟨ns, hns⟩ : ∃ ns, ((l.take k).map fun m => m.1) = ns := ⟨_, rfl⟩
      rw [hns] at hCs hln ⊢
      go_upto_region 7 with fail
      have hg := heap_new wr (.cells #[.string s, .int .i64 v] 62)
      have hal := below_alloc (Below.refl wr.heap.size wr) (.cells #[.string s, .int .i64 v] 62)
      have hwa : (wr.alloc (.cells #[.string s, .int .i64 v] 62)).heap.size = wr.heap.size + 1 := by simp
      generalize wr.alloc (.cells #[.string s, .int .i64 v] 62) = wa at hg hal hwa ⊢
      have hgz : wr.heap.size < wa.heap.size := by omega
      have HG := Lib.hid hg
      have HAL := Lib.hid hal
      have hCa := Kd.C_below hCs hal
      obtain ⟨BH, hBH⟩ : ∃ BH, memB s ns = BH := ⟨_, rfl⟩
      have hh : ∀ W, Below wa.heap.size wa W → _ := fun W hb => hasStr_any As cs ns s W (Kd.C_below hCa hb)
      rw [hBH, hln] at hh
      have HH := Lib.hid hh
      have HBH := Lib.hid hBH
      have HCA := Lib.hid hCa
      have HNS := Lib.hid hns
      have HS := Lib.hid (Below.refl wa.heap.size wa)
      rw [hln]
      have HLN := Lib.hid hln
      clear hg hal hwa hh hBH hCs hCa hns hln h0 h1
      go_cut [60] (fun s60 wx => ∃ bb : Bool, s60 = .bool bb ∧ (bb = false → 0 ≤ v ∧ v ≤ 100 ∧ s.size ≤ 60 ∧ BH = false ∧ (0 < k → Op.bytesLess s.toList (ns.getD (k - 1) ⟨#[]⟩).toList = false)) ∧ Hid (Below wa.heap.size wa wx))
      case first =>
        rcases Nat.eq_zero_or_pos k with hk0 | hk0
        · subst hk0
          refine Gd.WT_start (by as_aux_lemma => kernel_rfl) (by as_aux_lemma => kernel_rfl) (by as_aux_lemma => kernel_rfl) (fun _ _ _ _ h => h) ?_
          refine ⟨(fun w' => w'.cell? ⟨wr.heap.size, 0, none⟩ = some (.string s) ∧ w'.cell? ⟨wr.heap.size, 1, none⟩ = some (.int .i64 v) ∧ Hid (Below wa.heap.size wa w')), ?_, fun hHeld => ?_⟩
          · (try dsimp only); go_split_ands; refine keepM0 HG.out hgz ?_; (first | with_reducible assumption | exact hid_drew HS)
          refine Gd.WT_take 0 (v := ?_) (by simp only [List.getElem?_toArray, List.getElem?_cons_succ, List.getElem?_cons_zero]; rfl) (Or.inl ⟨by rfl, ?_⟩) (by assumption) ?_
          rotate_left
          · ((intro w hSw; (try dsimp only at hSw); go_simp); (try with_reducible rfl))
          try simp only [Act.put, List.foldl_cons, List.foldl_nil, List.setIfInBounds_toArray, List.set_cons_zero, List.set_cons_succ]
          refine Gd.WT_take 1 (v := ?_) (by simp only [List.getElem?_toArray, List.getElem?_cons_succ, List.getElem?_cons_zero]; rfl) (Or.inl ⟨by rfl, ?_⟩) (by assumption) ?_
          rotate_left
          · ((intro w hSw; (try dsimp only at hSw); go_simp); (try with_reducible rfl))
          try simp only [Act.put, List.foldl_cons, List.foldl_nil, List.setIfInBounds_toArray, List.set_cons_zero, List.set_cons_succ]
          refine Gd.WT_take 2 (v := ?_) (by simp only [List.getElem?_toArray, List.getElem?_cons_succ, List.getElem?_cons_zero]; rfl) (Or.inl ⟨by rfl, ?_⟩) (by assumption) ?_
          rotate_left
          · ((intro w hSw; (try dsimp only at hSw); go_simp); (try with_reducible rfl))
          try simp only [Act.put, List.foldl_cons, List.foldl_nil, List.setIfInBounds_toArray, List.set_cons_zero, List.set_cons_succ]
          refine Gd.WT_take 3 (v := ?_) (by simp only [List.getElem?_toArray, List.getElem?_cons_succ, List.getElem?_cons_zero]; rfl) (Or.inl ⟨by rfl, ?_⟩) (by assumption) ?_
          rotate_left
          · ((intro w hSw; (try dsimp only at hSw); go_simp); (try with_reducible rfl))
          try simp only [Act.put, List.foldl_cons, List.foldl_nil, List.setIfInBounds_toArray, List.set_cons_zero, List.set_cons_succ]
          by_cases hv0 : v < 0
          all_goals (try simp only [hv0, decide_true, decide_false])
          · refine Gd.WT_passes (by assumption) 4 [none, none, none, some true, some true, none, none, none, none, some true, some true, none, none, none, none, some true, some true, none, none, none, none, none, none, none, none, none, none, none, none, none, none, some true] [(some 29, undef), (some 30, undef), (some 31, undef), (some 32, .bool true), (some 33, .bool true), (some 34, undef), (some 35, undef), (some 36, undef), (some 37, undef), (some 38, .bool true), (some 39, .bool true), (some 40, undef), (some 41, undef), (some 42, undef), (some 43, undef), (some 44, .bool true), (some 45, .bool true), (some 46, undef), (some 47, undef), (some 48, undef), (some 49, undef), (some 50, undef), (some 51, undef), (some 52, undef), (some 53, undef), (some 54, undef), (some 55, undef), (some 56, undef), (some 57, undef), (some 58, undef), (some 59, undef), (some 60, .bool true)] 36 _ (by kernel_rfl) (by kernel_rfl) rfl ?_
            simp only [Act.put, List.foldl_cons, List.foldl_nil, List.setIfInBounds_toArray, List.set_cons_zero, List.set_cons_succ]
            refine Gd.WT_end (by exact Nat.le_refl 36) ?_
            go_wp2_with fail
            go_meet
            case rel => exact ⟨true, rfl, by simp, by first | assumption | exact hid_drew HS⟩
          refine Gd.WT_take 4 (v := ?_) (by simp only [List.getElem?_toArray, List.getElem?_cons_succ, List.getElem?_cons_zero]; rfl) (Or.inl ⟨by rfl, ?_⟩) (by assumption) ?_
          rotate_left
          · ((intro w hSw; (try dsimp only at hSw); go_simp); (try with_reducible rfl))
          try simp only [Act.put, List.foldl_cons, List.foldl_nil, List.setIfInBounds_toArray, List.set_cons_zero, List.set_cons_succ]
          refine Gd.WT_take 5 (v := ?_) (by simp only [List.getElem?_toArray, List.getElem?_cons_succ, List.getElem?_cons_zero]; rfl) (Or.inl ⟨by rfl, ?_⟩) (by assumption) ?_
          rotate_left
          · ((intro w hSw; (try dsimp only at hSw); go_simp); (try with_reducible rfl))
          try simp only [Act.put, List.foldl_cons, List.foldl_nil, List.setIfInBounds_toArray, List.set_cons_zero, List.set_cons_succ]
          refine Gd.WT_take 6 (v := ?_) (by simp only [List.getElem?_toArray, List.getElem?_cons_succ, List.getElem?_cons_zero]; rfl) (Or.inl ⟨by rfl, ?_⟩) (by assumption) ?_
          rotate_left
          · ((intro w hSw; (try dsimp only at hSw); go_simp); (try with_reducible rfl))
          try simp only [Act.put, List.foldl_cons, List.foldl_nil, List.setIfInBounds_toArray, List.set_cons_zero, List.set_cons_succ]
          refine Gd.WT_take 7 (v := ?_) (by simp only [List.getElem?_toArray, List.getElem?_cons_succ, List.getElem?_cons_zero]; rfl) (Or.inl ⟨by rfl, ?_⟩) (by assumption) ?_
          rotate_left
          · ((intro w hSw; (try dsimp only at hSw); go_simp); (try with_reducible rfl))
          try simp only [Act.put, List.foldl_cons, List.foldl_nil, List.setIfInBounds_toArray, List.set_cons_zero, List.set_cons_succ]
          refine Gd.WT_take 8 (v := ?_) (by simp only [List.getElem?_toArray, List.getElem?_cons_succ, List.getElem?_cons_zero]; rfl) (Or.inl ⟨by rfl, ?_⟩) (by assumption) ?_
          rotate_left
          · ((intro w hSw; (try dsimp only at hSw); go_simp); (try with_reducible rfl))
          try simp only [Act.put, List.foldl_cons, List.foldl_nil, List.setIfInBounds_toArray, List.set_cons_zero, List.set_cons_succ]
          by_cases hv1 : 100 < v
          all_goals (try simp only [hv1, decide_true, decide_false])
          · refine Gd.WT_passes (by assumption) 9 [none, none, none, none, some true, some true, none, none, none, none, some true, some true, none, none, none, none, none, none, none, none, none, none, none, none, none, none, some true] [(some 34, undef), (some 35, undef), (some 36, undef), (some 37, undef), (some 38, .bool true), (some 39, .bool true), (some 40, undef), (some 41, undef), (some 42, undef), (some 43, undef), (some 44, .bool true), (some 45, .bool true), (some 46, undef), (some 47, undef), (some 48, undef), (some 49, undef), (some 50, undef), (some 51, undef), (some 52, undef), (some 53, undef), (some 54, undef), (some 55, undef), (some 56, undef), (some 57, undef), (some 58, undef), (some 59, undef), (some 60, .bool true)] 36 _ (by kernel_rfl) (by kernel_rfl) rfl ?_
            simp only [Act.put, List.foldl_cons, List.foldl_nil, List.setIfInBounds_toArray, List.set_cons_zero, List.set_cons_succ]
            refine Gd.WT_end (by exact Nat.le_refl 36) ?_
            go_wp2_with fail
            go_meet
            case rel => exact ⟨true, rfl, by simp, by first | assumption | exact hid_drew HS⟩
          refine Gd.WT_take 9 (v := ?_) (by simp only [List.getElem?_toArray, List.getElem?_cons_succ, List.getElem?_cons_zero]; rfl) (Or.inl ⟨by rfl, ?_⟩) (by assumption) ?_
          rotate_left
          · ((intro w hSw; (try dsimp only at hSw); go_simp); (try with_reducible rfl))
          try simp only [Act.put, List.foldl_cons, List.foldl_nil, List.setIfInBounds_toArray, List.set_cons_zero, List.set_cons_succ]
          refine Gd.WT_take 10 (v := ?_) (by simp only [List.getElem?_toArray, List.getElem?_cons_succ, List.getElem?_cons_zero]; rfl) (Or.inl ⟨by rfl, ?_⟩) (by assumption) ?_
          rotate_left
          · ((intro w hSw; (try dsimp only at hSw); go_simp); (try with_reducible rfl))
          try simp only [Act.put, List.foldl_cons, List.foldl_nil, List.setIfInBounds_toArray, List.set_cons_zero, List.set_cons_succ]
          refine Gd.WT_take 11 (v := ?_) (by simp only [List.getElem?_toArray, List.getElem?_cons_succ, List.getElem?_cons_zero]; rfl) (Or.inl ⟨by rfl, ?_⟩) (by assumption) ?_
          rotate_left
          · ((intro w hSw; (try dsimp only at hSw); go_simp); (try with_reducible rfl))
          try simp only [Act.put, List.foldl_cons, List.foldl_nil, List.setIfInBounds_toArray, List.set_cons_zero, List.set_cons_succ]
          refine Gd.WT_take 12 (v := ?_) (by simp only [List.getElem?_toArray, List.getElem?_cons_succ, List.getElem?_cons_zero]; rfl) (Or.inl ⟨by rfl, ?_⟩) (by assumption) ?_
          rotate_left
          · ((intro w hSw; (try dsimp only at hSw); go_simp); (try with_reducible rfl))
          try simp only [Act.put, List.foldl_cons, List.foldl_nil, List.setIfInBounds_toArray, List.set_cons_zero, List.set_cons_succ]
          refine Gd.WT_take 13 (v := ?_) (by simp only [List.getElem?_toArray, List.getElem?_cons_succ, List.getElem?_cons_zero]; rfl) (Or.inl ⟨by rfl, ?_⟩) (by assumption) ?_
          rotate_left
          · ((intro w hSw; (try dsimp only at hSw); go_simp); (try with_reducible rfl))
          try simp only [Act.put, List.foldl_cons, List.foldl_nil, List.setIfInBounds_toArray, List.set_cons_zero, List.set_cons_succ]
          refine Gd.WT_take 14 (v := ?_) (by simp only [List.getElem?_toArray, List.getElem?_cons_succ, List.getElem?_cons_zero]; rfl) (Or.inl ⟨by rfl, ?_⟩) (by assumption) ?_
          rotate_left
          · ((intro w hSw; (try dsimp only at hSw); go_simp); (try with_reducible rfl))
          try simp only [Act.put, List.foldl_cons, List.foldl_nil, List.setIfInBounds_toArray, List.set_cons_zero, List.set_cons_succ]
          by_cases hs60 : (60 : Int) < s.size
          all_goals (try simp only [hs60, decide_true, decide_false])
          · refine Gd.WT_passes (by assumption) 15 [none, none, none, none, some true, some true, none, none, none, none, none, none, none, none, none, none, none, none, none, none, some true] [(some 40, undef), (some 41, undef), (some 42, undef), (some 43, undef), (some 44, .bool true), (some 45, .bool true), (some 46, undef), (some 47, undef), (some 48, undef), (some 49, undef), (some 50, undef), (some 51, undef), (some 52, undef), (some 53, undef), (some 54, undef), (some 55, undef), (some 56, undef), (some 57, undef), (some 58, undef), (some 59, undef), (some 60, .bool true)] 36 _ (by kernel_rfl) (by kernel_rfl) rfl ?_
            simp only [Act.put, List.foldl_cons, List.foldl_nil, List.setIfInBounds_toArray, List.set_cons_zero, List.set_cons_succ]
            refine Gd.WT_end (by exact Nat.le_refl 36) ?_
            go_wp2_with fail
            go_meet
            case rel => exact ⟨true, rfl, by simp, by first | assumption | exact hid_drew HS⟩
          refine Gd.WT_take 15 (v := ?_) (by simp only [List.getElem?_toArray, List.getElem?_cons_succ, List.getElem?_cons_zero]; rfl) (Or.inl ⟨by rfl, ?_⟩) (by assumption) ?_
          rotate_left
          · ((intro w hSw; (try dsimp only at hSw); go_simp); (try with_reducible rfl))
          try simp only [Act.put, List.foldl_cons, List.foldl_nil, List.setIfInBounds_toArray, List.set_cons_zero, List.set_cons_succ]
          refine Gd.WT_take 16 (v := ?_) (by simp only [List.getElem?_toArray, List.getElem?_cons_succ, List.getElem?_cons_zero]; rfl) (Or.inl ⟨by rfl, ?_⟩) (by assumption) ?_
          rotate_left
          · ((intro w hSw; (try dsimp only at hSw); go_simp); (try with_reducible rfl))
          try simp only [Act.put, List.foldl_cons, List.foldl_nil, List.setIfInBounds_toArray, List.set_cons_zero, List.set_cons_succ]
          refine Gd.WT_take 17 (v := ?_) (by simp only [List.getElem?_toArray, List.getElem?_cons_succ, List.getElem?_cons_zero]; rfl) (Or.inl ⟨by rfl, ?_⟩) (by assumption) ?_
          rotate_left
          · ((intro w hSw; (try dsimp only at hSw); go_simp); (try with_reducible rfl))
          try simp only [Act.put, List.foldl_cons, List.foldl_nil, List.setIfInBounds_toArray, List.set_cons_zero, List.set_cons_succ]
          refine Gd.WT_call 18 (by simp only [List.getElem?_toArray, List.getElem?_cons_succ, List.getElem?_cons_zero]; rfl) (by as_aux_lemma => kernel_rfl) (fun K hK => ?_)
          go_simp
          (go_at_call 33; go_split_ands; (with_reducible refine (HH.out _ (Hid.out (by assumption))).mono ?_); rintro e w4 ⟨rfl, hlq⟩; have hBq : Hid (Below wa.heap.size wa w4) := Lib.hid (hid_trans (Nat.le_refl _) (by assumption) hlq); clear hlq)
          refine hK.out _ _ ?_ (fun hHeld => ?_)
          · (try dsimp only); go_split_ands; refine keepM0 HG.out hgz ?_; (first | with_reducible assumption | exact hid_drew HS)
          clear hK K
          try simp only [Act.put, List.foldl_cons, List.foldl_nil, List.setIfInBounds_toArray, List.set_cons_zero, List.set_cons_succ]
          refine Gd.WT_take 19 (v := ?_) (by simp only [List.getElem?_toArray, List.getElem?_cons_succ, List.getElem?_cons_zero]; rfl) (Or.inl ⟨by rfl, ?_⟩) (by assumption) ?_
          rotate_left
          · ((intro w hSw; (try dsimp only at hSw); go_simp); (try with_reducible rfl))
          try simp only [Act.put, List.foldl_cons, List.foldl_nil, List.setIfInBounds_toArray, List.set_cons_zero, List.set_cons_succ]
          refine Gd.WT_take 20 (v := ?_) (by simp only [List.getElem?_toArray, List.getElem?_cons_succ, List.getElem?_cons_zero]; rfl) (Or.inl ⟨by rfl, ?_⟩) (by assumption) ?_
          rotate_left
          · ((intro w hSw; (try dsimp only at hSw); go_simp); (try with_reducible rfl))
          try simp only [Act.put, List.foldl_cons, List.foldl_nil, List.setIfInBounds_toArray, List.set_cons_zero, List.set_cons_succ]
          cases BH
          rotate_left
          · refine Gd.WT_passes (by assumption) 21 [none, none, none, none, none, none, none, none, none, none, none, none, none, none, some true] [(some 46, undef), (some 47, undef), (some 48, undef), (some 49, undef), (some 50, undef), (some 51, undef), (some 52, undef), (some 53, undef), (some 54, undef), (some 55, undef), (some 56, undef), (some 57, undef), (some 58, undef), (some 59, undef), (some 60, .bool true)] 36 _ (by kernel_rfl) (by kernel_rfl) rfl ?_
            simp only [Act.put, List.foldl_cons, List.foldl_nil, List.setIfInBounds_toArray, List.set_cons_zero, List.set_cons_succ]
            refine Gd.WT_end (by exact Nat.le_refl 36) ?_
            go_wp2_with fail
            go_meet
            case rel => exact ⟨true, rfl, by simp, by first | assumption | exact hid_drew HS⟩
          refine Gd.WT_take 21 (v := ?_) (by simp only [List.getElem?_toArray, List.getElem?_cons_succ, List.getElem?_cons_zero]; rfl) (Or.inl ⟨by rfl, ?_⟩) (by assumption) ?_
          rotate_left
          · ((intro w hSw; (try dsimp only at hSw); go_simp); (try with_reducible rfl))
          try simp only [Act.put, List.foldl_cons, List.foldl_nil, List.setIfInBounds_toArray, List.set_cons_zero, List.set_cons_succ]
          refine Gd.WT_take 22 (v := ?_) (by simp only [List.getElem?_toArray, List.getElem?_cons_succ, List.getElem?_cons_zero]; rfl) (Or.inl ⟨by rfl, ?_⟩) (by assumption) ?_
          rotate_left
          · ((intro w hSw; (try dsimp only at hSw); go_simp); (try with_reducible rfl))
          try simp only [Act.put, List.foldl_cons, List.foldl_nil, List.setIfInBounds_toArray, List.set_cons_zero, List.set_cons_succ]
          refine Gd.WT_take 23 (v := ?_) (by simp only [List.getElem?_toArray, List.getElem?_cons_succ, List.getElem?_cons_zero]; rfl) (Or.inl ⟨by rfl, ?_⟩) (by assumption) ?_
          rotate_left
          · ((intro w hSw; (try dsimp only at hSw); go_simp); (try with_reducible rfl))
          try simp only [Act.put, List.foldl_cons, List.foldl_nil, List.setIfInBounds_toArray, List.set_cons_zero, List.set_cons_succ]
          refine Gd.WT_take 24 (v := ?_) (by simp only [List.getElem?_toArray, List.getElem?_cons_succ, List.getElem?_cons_zero]; rfl) (Or.inl ⟨by rfl, ?_⟩) (by assumption) ?_
          rotate_left
          · ((intro w hSw; (try dsimp only at hSw); go_simp); (try with_reducible rfl))
          try simp only [Act.put, List.foldl_cons, List.foldl_nil, List.setIfInBounds_toArray, List.set_cons_zero, List.set_cons_succ]
          refine Gd.WT_passes (by assumption) 25 [none, none, none, none, none, none, none, none, none, some false, some false] [(some 50, undef), (some 51, undef), (some 52, undef), (some 53, undef), (some 54, undef), (some 55, undef), (some 56, undef), (some 57, undef), (some 58, undef), (some 59, .bool false), (some 60, .bool false)] 36 _ (by kernel_rfl) (by kernel_rfl) rfl ?_
          simp only [Act.put, List.foldl_cons, List.foldl_nil, List.setIfInBounds_toArray, List.set_cons_zero, List.set_cons_succ]
          refine Gd.WT_end (by exact Nat.le_refl 36) ?_
          go_wp2_with fail
          go_meet
          case rel => exact ⟨false, rfl, fun _ => ⟨by omega, by omega, by omega, (by first | trivial | rfl), fun h => absurd h (by omega)⟩, by first | assumption | exact hid_drew HS⟩
        · obtain ⟨aq, haq, hz⟩ := strs_at HCA.out (k - 1) (by rw [HLN.out]; omega)
          subst haq
          obtain ⟨z, hzz⟩ : ∃ z, ns[k - 1]'(by rw [HLN.out]; omega) = z := ⟨_, rfl⟩
          rw [hzz] at hz
          have hlz : (aq.add (k - 1)).block < wa.heap.size := World.block_lt_of_cell? _ _ hz
          have HLZ := Lib.hid hz
          have HZZ := Lib.hid hzz
          have HGD := Lib.hid (show ns.getD (k - 1) ⟨#[]⟩ = z by rw [← hzz]; simp [List.getD, List.getElem?_eq_getElem (show k - 1 < ns.length by rw [HLN.out]; omega)])
          have hwk : IntKind.i64.wrap ((k : Int) - 1) = ((k - 1 : Nat) : Int) := by rw [IntKind.wrap_i64]; omega
          have hk1 : ((k : Int) - 1) = ((k - 1 : Nat) : Int) := by omega
          have hwk2 : IntKind.i64.wrap ((k - 1 : Nat) : Int) = ((k - 1 : Nat) : Int) := by rw [IntKind.wrap_i64]; omega
          have hk2 : ((k - 1 : Nat) : Int) < (k : Int) := by omega
          have hk3 : (0 : Int) ≤ ((k - 1 : Nat) : Int) := by omega
          have hk4 : (0 : Int) < (k : Int) := by omega
          clear hz hzz
          refine Gd.WT_start (by as_aux_lemma => kernel_rfl) (by as_aux_lemma => kernel_rfl) (by as_aux_lemma => kernel_rfl) (fun _ _ _ _ h => h) ?_
          refine ⟨(fun w' => w'.cell? ⟨wr.heap.size, 0, none⟩ = some (.string s) ∧ w'.cell? ⟨wr.heap.size, 1, none⟩ = some (.int .i64 v) ∧ w'.cell? (aq.add (k - 1)) = some (.string z) ∧ Hid (Below wa.heap.size wa w')), ?_, fun hHeld => ?_⟩
          · (try dsimp only); go_split_ands; refine keepM1 HG.out HLZ.out hlz hgz ?_; (first | with_reducible assumption | exact hid_drew HS)
          refine Gd.WT_take 0 (v := ?_) (by simp only [List.getElem?_toArray, List.getElem?_cons_succ, List.getElem?_cons_zero]; rfl) (Or.inl ⟨by rfl, ?_⟩) (by assumption) ?_
          rotate_left
          · ((intro w hSw; (try dsimp only at hSw); go_simp); (try with_reducible rfl))
          try simp only [Act.put, List.foldl_cons, List.foldl_nil, List.setIfInBounds_toArray, List.set_cons_zero, List.set_cons_succ]
          refine Gd.WT_take 1 (v := ?_) (by simp only [List.getElem?_toArray, List.getElem?_cons_succ, List.getElem?_cons_zero]; rfl) (Or.inl ⟨by rfl, ?_⟩) (by assumption) ?_
          rotate_left
          · ((intro w hSw; (try dsimp only at hSw); go_simp); (try with_reducible rfl))
          try simp only [Act.put, List.foldl_cons, List.foldl_nil, List.setIfInBounds_toArray, List.set_cons_zero, List.set_cons_succ]
          refine Gd.WT_take 2 (v := ?_) (by simp only [List.getElem?_toArray, List.getElem?_cons_succ, List.getElem?_cons_zero]; rfl) (Or.inl ⟨by rfl, ?_⟩) (by assumption) ?_
          rotate_left
          · ((intro w hSw; (try dsimp only at hSw); go_simp); (try with_reducible rfl))
          try simp only [Act.put, List.foldl_cons, List.foldl_nil, List.setIfInBounds_toArray, List.set_cons_zero, List.set_cons_succ]
          refine Gd.WT_take 3 (v := ?_) (by simp only [List.getElem?_toArray, List.getElem?_cons_succ, List.getElem?_cons_zero]; rfl) (Or.inl ⟨by rfl, ?_⟩) (by assumption) ?_
          rotate_left
          · ((intro w hSw; (try dsimp only at hSw); go_simp); (try with_reducible rfl))
          try simp only [Act.put, List.foldl_cons, List.foldl_nil, List.setIfInBounds_toArray, List.set_cons_zero, List.set_cons_succ]
          by_cases hv0 : v < 0
          all_goals (try simp only [hv0, decide_true, decide_false])
          · refine Gd.WT_passes (by assumption) 4 [none, none, none, some true, some true, none, none, none, none, some true, some true, none, none, none, none, some true, some true, none, none, none, none, none, none, none, none, none, none, none, none, none, none, some true] [(some 29, undef), (some 30, undef), (some 31, undef), (some 32, .bool true), (some 33, .bool true), (some 34, undef), (some 35, undef), (some 36, undef), (some 37, undef), (some 38, .bool true), (some 39, .bool true), (some 40, undef), (some 41, undef), (some 42, undef), (some 43, undef), (some 44, .bool true), (some 45, .bool true), (some 46, undef), (some 47, undef), (some 48, undef), (some 49, undef), (some 50, undef), (some 51, undef), (some 52, undef), (some 53, undef), (some 54, undef), (some 55, undef), (some 56, undef), (some 57, undef), (some 58, undef), (some 59, undef), (some 60, .bool true)] 36 _ (by kernel_rfl) (by kernel_rfl) rfl ?_
            simp only [Act.put, List.foldl_cons, List.foldl_nil, List.setIfInBounds_toArray, List.set_cons_zero, List.set_cons_succ]
            refine Gd.WT_end (by exact Nat.le_refl 36) ?_
            go_wp2_with fail
            go_meet
            case rel => exact ⟨true, rfl, by simp, by first | assumption | exact hid_drew HS⟩
          refine Gd.WT_take 4 (v := ?_) (by simp only [List.getElem?_toArray, List.getElem?_cons_succ, List.getElem?_cons_zero]; rfl) (Or.inl ⟨by rfl, ?_⟩) (by assumption) ?_
          rotate_left
          · ((intro w hSw; (try dsimp only at hSw); go_simp); (try with_reducible rfl))
          try simp only [Act.put, List.foldl_cons, List.foldl_nil, List.setIfInBounds_toArray, List.set_cons_zero, List.set_cons_succ]
          refine Gd.WT_take 5 (v := ?_) (by simp only [List.getElem?_toArray, List.getElem?_cons_succ, List.getElem?_cons_zero]; rfl) (Or.inl ⟨by rfl, ?_⟩) (by assumption) ?_
          rotate_left
          · ((intro w hSw; (try dsimp only at hSw); go_simp); (try with_reducible rfl))
          try simp only [Act.put, List.foldl_cons, List.foldl_nil, List.setIfInBounds_toArray, List.set_cons_zero, List.set_cons_succ]
          refine Gd.WT_take 6 (v := ?_) (by simp only [List.getElem?_toArray, List.getElem?_cons_succ, List.getElem?_cons_zero]; rfl) (Or.inl ⟨by rfl, ?_⟩) (by assumption) ?_
          rotate_left
          · ((intro w hSw; (try dsimp only at hSw); go_simp); (try with_reducible rfl))
          try simp only [Act.put, List.foldl_cons, List.foldl_nil, List.setIfInBounds_toArray, List.set_cons_zero, List.set_cons_succ]
          refine Gd.WT_take 7 (v := ?_) (by simp only [List.getElem?_toArray, List.getElem?_cons_succ, List.getElem?_cons_zero]; rfl) (Or.inl ⟨by rfl, ?_⟩) (by assumption) ?_
          rotate_left
          · ((intro w hSw; (try dsimp only at hSw); go_simp); (try with_reducible rfl))
          try simp only [Act.put, List.foldl_cons, List.foldl_nil, List.setIfInBounds_toArray, List.set_cons_zero, List.set_cons_succ]
          refine Gd.WT_take 8 (v := ?_) (by simp only [List.getElem?_toArray, List.getElem?_cons_succ, List.getElem?_cons_zero]; rfl) (Or.inl ⟨by rfl, ?_⟩) (by assumption) ?_
          rotate_left
          · ((intro w hSw; (try dsimp only at hSw); go_simp); (try with_reducible rfl))
          try simp only [Act.put, List.foldl_cons, List.foldl_nil, List.setIfInBounds_toArray, List.set_cons_zero, List.set_cons_succ]
          by_cases hv1 : 100 < v
          all_goals (try simp only [hv1, decide_true, decide_false])
          · refine Gd.WT_passes (by assumption) 9 [none, none, none, none, some true, some true, none, none, none, none, some true, some true, none, none, none, none, none, none, none, none, none, none, none, none, none, none, some true] [(some 34, undef), (some 35, undef), (some 36, undef), (some 37, undef), (some 38, .bool true), (some 39, .bool true), (some 40, undef), (some 41, undef), (some 42, undef), (some 43, undef), (some 44, .bool true), (some 45, .bool true), (some 46, undef), (some 47, undef), (some 48, undef), (some 49, undef), (some 50, undef), (some 51, undef), (some 52, undef), (some 53, undef), (some 54, undef), (some 55, undef), (some 56, undef), (some 57, undef), (some 58, undef), (some 59, undef), (some 60, .bool true)] 36 _ (by kernel_rfl) (by kernel_rfl) rfl ?_
            simp only [Act.put, List.foldl_cons, List.foldl_nil, List.setIfInBounds_toArray, List.set_cons_zero, List.set_cons_succ]
            refine Gd.WT_end (by exact Nat.le_refl 36) ?_
            go_wp2_with fail
            go_meet
            case rel => exact ⟨true, rfl, by simp, by first | assumption | exact hid_drew HS⟩
          refine Gd.WT_take 9 (v := ?_) (by simp only [List.getElem?_toArray, List.getElem?_cons_succ, List.getElem?_cons_zero]; rfl) (Or.inl ⟨by rfl, ?_⟩) (by assumption) ?_
          rotate_left
          · ((intro w hSw; (try dsimp only at hSw); go_simp); (try with_reducible rfl))
          try simp only [Act.put, List.foldl_cons, List.foldl_nil, List.setIfInBounds_toArray, List.set_cons_zero, List.set_cons_succ]
          refine Gd.WT_take 10 (v := ?_) (by simp only [List.getElem?_toArray, List.getElem?_cons_succ, List.getElem?_cons_zero]; rfl) (Or.inl ⟨by rfl, ?_⟩) (by assumption) ?_
          rotate_left
          · ((intro w hSw; (try dsimp only at hSw); go_simp); (try with_reducible rfl))
          try simp only [Act.put, List.foldl_cons, List.foldl_nil, List.setIfInBounds_toArray, List.set_cons_zero, List.set_cons_succ]
          refine Gd.WT_take 11 (v := ?_) (by simp only [List.getElem?_toArray, List.getElem?_cons_succ, List.getElem?_cons_zero]; rfl) (Or.inl ⟨by rfl, ?_⟩) (by assumption) ?_
          rotate_left
          · ((intro w hSw; (try dsimp only at hSw); go_simp); (try with_reducible rfl))
          try simp only [Act.put, List.foldl_cons, List.foldl_nil, List.setIfInBounds_toArray, List.set_cons_zero, List.set_cons_succ]
          refine Gd.WT_take 12 (v := ?_) (by simp only [List.getElem?_toArray, List.getElem?_cons_succ, List.getElem?_cons_zero]; rfl) (Or.inl ⟨by rfl, ?_⟩) (by assumption) ?_
          rotate_left
          · ((intro w hSw; (try dsimp only at hSw); go_simp); (try with_reducible rfl))
          try simp only [Act.put, List.foldl_cons, List.foldl_nil, List.setIfInBounds_toArray, List.set_cons_zero, List.set_cons_succ]
          refine Gd.WT_take 13 (v := ?_) (by simp only [List.getElem?_toArray, List.getElem?_cons_succ, List.getElem?_cons_zero]; rfl) (Or.inl ⟨by rfl, ?_⟩) (by assumption) ?_
          rotate_left
          · ((intro w hSw; (try dsimp only at hSw); go_simp); (try with_reducible rfl))
          try simp only [Act.put, List.foldl_cons, List.foldl_nil, List.setIfInBounds_toArray, List.set_cons_zero, List.set_cons_succ]
          refine Gd.WT_take 14 (v := ?_) (by simp only [List.getElem?_toArray, List.getElem?_cons_succ, List.getElem?_cons_zero]; rfl) (Or.inl ⟨by rfl, ?_⟩) (by assumption) ?_
          rotate_left
          · ((intro w hSw; (try dsimp only at hSw); go_simp); (try with_reducible rfl))
          try simp only [Act.put, List.foldl_cons, List.foldl_nil, List.setIfInBounds_toArray, List.set_cons_zero, List.set_cons_succ]
          by_cases hs60 : (60 : Int) < s.size
          all_goals (try simp only [hs60, decide_true, decide_false])
          · refine Gd.WT_passes (by assumption) 15 [none, none, none, none, some true, some true, none, none, none, none, none, none, none, none, none, none, none, none, none, none, some true] [(some 40, undef), (some 41, undef), (some 42, undef), (some 43, undef), (some 44, .bool true), (some 45, .bool true), (some 46, undef), (some 47, undef), (some 48, undef), (some 49, undef), (some 50, undef), (some 51, undef), (some 52, undef), (some 53, undef), (some 54, undef), (some 55, undef), (some 56, undef), (some 57, undef), (some 58, undef), (some 59, undef), (some 60, .bool true)] 36 _ (by kernel_rfl) (by kernel_rfl) rfl ?_
            simp only [Act.put, List.foldl_cons, List.foldl_nil, List.setIfInBounds_toArray, List.set_cons_zero, List.set_cons_succ]
            refine Gd.WT_end (by exact Nat.le_refl 36) ?_
            go_wp2_with fail
            go_meet
            case rel => exact ⟨true, rfl, by simp, by first | assumption | exact hid_drew HS⟩
          refine Gd.WT_take 15 (v := ?_) (by simp only [List.getElem?_toArray, List.getElem?_cons_succ, List.getElem?_cons_zero]; rfl) (Or.inl ⟨by rfl, ?_⟩) (by assumption) ?_
          rotate_left
          · ((intro w hSw; (try dsimp only at hSw); go_simp); (try with_reducible rfl))
          try simp only [Act.put, List.foldl_cons, List.foldl_nil, List.setIfInBounds_toArray, List.set_cons_zero, List.set_cons_succ]
          refine Gd.WT_take 16 (v := ?_) (by simp only [List.getElem?_toArray, List.getElem?_cons_succ, List.getElem?_cons_zero]; rfl) (Or.inl ⟨by rfl, ?_⟩) (by assumption) ?_
          rotate_left
          · ((intro w hSw; (try dsimp only at hSw); go_simp); (try with_reducible rfl))
          try simp only [Act.put, List.foldl_cons, List.foldl_nil, List.setIfInBounds_toArray, List.set_cons_zero, List.set_cons_succ]
          refine Gd.WT_take 17 (v := ?_) (by simp only [List.getElem?_toArray, List.getElem?_cons_succ, List.getElem?_cons_zero]; rfl) (Or.inl ⟨by rfl, ?_⟩) (by assumption) ?_
          rotate_left
          · ((intro w hSw; (try dsimp only at hSw); go_simp); (try with_reducible rfl))
          try simp only [Act.put, List.foldl_cons, List.foldl_nil, List.setIfInBounds_toArray, List.set_cons_zero, List.set_cons_succ]
          refine Gd.WT_call 18 (by simp only [List.getElem?_toArray, List.getElem?_cons_succ, List.getElem?_cons_zero]; rfl) (by as_aux_lemma => kernel_rfl) (fun K hK => ?_)
          go_simp
          (go_at_call 33; go_split_ands; (with_reducible refine (HH.out _ (Hid.out (by assumption))).mono ?_); rintro e w4 ⟨rfl, hlq⟩; have hBq : Hid (Below wa.heap.size wa w4) := Lib.hid (hid_trans (Nat.le_refl _) (by assumption) hlq); clear hlq)
          refine hK.out _ _ ?_ (fun hHeld => ?_)
          · (try dsimp only); go_split_ands; refine keepM1 HG.out HLZ.out hlz hgz ?_; (first | with_reducible assumption | exact hid_drew HS)
          clear hK K
          try simp only [Act.put, List.foldl_cons, List.foldl_nil, List.setIfInBounds_toArray, List.set_cons_zero, List.set_cons_succ]
          refine Gd.WT_take 19 (v := ?_) (by simp only [List.getElem?_toArray, List.getElem?_cons_succ, List.getElem?_cons_zero]; rfl) (Or.inl ⟨by rfl, ?_⟩) (by assumption) ?_
          rotate_left
          · ((intro w hSw; (try dsimp only at hSw); go_simp); (try with_reducible rfl))
          try simp only [Act.put, List.foldl_cons, List.foldl_nil, List.setIfInBounds_toArray, List.set_cons_zero, List.set_cons_succ]
          refine Gd.WT_take 20 (v := ?_) (by simp only [List.getElem?_toArray, List.getElem?_cons_succ, List.getElem?_cons_zero]; rfl) (Or.inl ⟨by rfl, ?_⟩) (by assumption) ?_
          rotate_left
          · ((intro w hSw; (try dsimp only at hSw); go_simp); (try with_reducible rfl))
          try simp only [Act.put, List.foldl_cons, List.foldl_nil, List.setIfInBounds_toArray, List.set_cons_zero, List.set_cons_succ]
          cases BH
          rotate_left
          · refine Gd.WT_passes (by assumption) 21 [none, none, none, none, none, none, none, none, none, none, none, none, none, none, some true] [(some 46, undef), (some 47, undef), (some 48, undef), (some 49, undef), (some 50, undef), (some 51, undef), (some 52, undef), (some 53, undef), (some 54, undef), (some 55, undef), (some 56, undef), (some 57, undef), (some 58, undef), (some 59, undef), (some 60, .bool true)] 36 _ (by kernel_rfl) (by kernel_rfl) rfl ?_
            simp only [Act.put, List.foldl_cons, List.foldl_nil, List.setIfInBounds_toArray, List.set_cons_zero, List.set_cons_succ]
            refine Gd.WT_end (by exact Nat.le_refl 36) ?_
            go_wp2_with fail
            go_meet
            case rel => exact ⟨true, rfl, by simp, by first | assumption | exact hid_drew HS⟩
          refine Gd.WT_take 21 (v := ?_) (by simp only [List.getElem?_toArray, List.getElem?_cons_succ, List.getElem?_cons_zero]; rfl) (Or.inl ⟨by rfl, ?_⟩) (by assumption) ?_
          rotate_left
          · ((intro w hSw; (try dsimp only at hSw); go_simp); (try with_reducible rfl))
          try simp only [Act.put, List.foldl_cons, List.foldl_nil, List.setIfInBounds_toArray, List.set_cons_zero, List.set_cons_succ]
          refine Gd.WT_take 22 (v := ?_) (by simp only [List.getElem?_toArray, List.getElem?_cons_succ, List.getElem?_cons_zero]; rfl) (Or.inl ⟨by rfl, ?_⟩) (by assumption) ?_
          rotate_left
          · ((intro w hSw; (try dsimp only at hSw); go_simp); (try with_reducible rfl))
          try simp only [Act.put, List.foldl_cons, List.foldl_nil, List.setIfInBounds_toArray, List.set_cons_zero, List.set_cons_succ]
          refine Gd.WT_take 23 (v := ?_) (by simp only [List.getElem?_toArray, List.getElem?_cons_succ, List.getElem?_cons_zero]; rfl) (Or.inl ⟨by rfl, ?_⟩) (by assumption) ?_
          rotate_left
          · ((intro w hSw; (try dsimp only at hSw); go_simp); (try with_reducible rfl))
          try simp only [Act.put, List.foldl_cons, List.foldl_nil, List.setIfInBounds_toArray, List.set_cons_zero, List.set_cons_succ]
          refine Gd.WT_take 24 (v := ?_) (by simp only [List.getElem?_toArray, List.getElem?_cons_succ, List.getElem?_cons_zero]; rfl) (Or.inl ⟨by rfl, ?_⟩) (by assumption) ?_
          rotate_left
          · ((intro w hSw; (try dsimp only at hSw); go_simp); (try with_reducible rfl))
          try simp only [Act.put, List.foldl_cons, List.foldl_nil, List.setIfInBounds_toArray, List.set_cons_zero, List.set_cons_succ]
          refine Gd.WT_take 25 (v := ?_) (by simp only [List.getElem?_toArray, List.getElem?_cons_succ, List.getElem?_cons_zero]; rfl) (Or.inl ⟨by rfl, ?_⟩) (by assumption) ?_
          rotate_left
          · ((intro w hSw; (try dsimp only at hSw); go_simp); (try with_reducible rfl))
          try simp only [Act.put, List.foldl_cons, List.foldl_nil, List.setIfInBounds_toArray, List.set_cons_zero, List.set_cons_succ]
          refine Gd.WT_take 26 (v := ?_) (by simp only [List.getElem?_toArray, List.getElem?_cons_succ, List.getElem?_cons_zero]; rfl) (Or.inl ⟨by rfl, ?_⟩) (by assumption) ?_
          rotate_left
          · ((intro w hSw; (try dsimp only at hSw); go_simp); (try with_reducible rfl))
          try simp only [Act.put, List.foldl_cons, List.foldl_nil, List.setIfInBounds_toArray, List.set_cons_zero, List.set_cons_succ]
          refine Gd.WT_take 27 (v := ?_) (by simp only [List.getElem?_toArray, List.getElem?_cons_succ, List.getElem?_cons_zero]; rfl) (Or.inl ⟨by rfl, ?_⟩) (by assumption) ?_
          rotate_left
          · ((intro w hSw; (try dsimp only at hSw); go_simp); (try with_reducible rfl))
          try simp only [Act.put, List.foldl_cons, List.foldl_nil, List.setIfInBounds_toArray, List.set_cons_zero, List.set_cons_succ]
          refine Gd.WT_take 28 (v := ?_) (by simp only [List.getElem?_toArray, List.getElem?_cons_succ, List.getElem?_cons_zero]; rfl) (Or.inl ⟨by rfl, ?_⟩) (by assumption) ?_
          rotate_left
          · ((intro w hSw; (try dsimp only at hSw); go_simp); (try with_reducible rfl))
          try simp only [Act.put, List.foldl_cons, List.foldl_nil, List.setIfInBounds_toArray, List.set_cons_zero, List.set_cons_succ]
          refine Gd.WT_take 29 (v := ?_) (by simp only [List.getElem?_toArray, List.getElem?_cons_succ, List.getElem?_cons_zero]; rfl) (Or.inl ⟨by rfl, ?_⟩) (by assumption) ?_
          rotate_left
          · ((intro w hSw; (try dsimp only at hSw); go_simp); (try with_reducible rfl))
          try simp only [Act.put, List.foldl_cons, List.foldl_nil, List.setIfInBounds_toArray, List.set_cons_zero, List.set_cons_succ]
          refine Gd.WT_take 30 (v := ?_) (by simp only [List.getElem?_toArray, List.getElem?_cons_succ, List.getElem?_cons_zero]; rfl) (Or.inl ⟨by rfl, ?_⟩) (by assumption) ?_
          rotate_left
          · ((intro w hSw; (try dsimp only at hSw); go_simp); (try with_reducible rfl))
          try simp only [Act.put, List.foldl_cons, List.foldl_nil, List.setIfInBounds_toArray, List.set_cons_zero, List.set_cons_succ]
          refine Gd.WT_take 31 (v := ?_) (by simp only [List.getElem?_toArray, List.getElem?_cons_succ, List.getElem?_cons_zero]; rfl) (Or.inl ⟨by rfl, ?_⟩) (by assumption) ?_
          rotate_left
          · ((intro w hSw; (try dsimp only at hSw); go_simp); (try with_reducible rfl))
          try simp only [Act.put, List.foldl_cons, List.foldl_nil, List.setIfInBounds_toArray, List.set_cons_zero, List.set_cons_succ]
          refine Gd.WT_take 32 (v := ?_) (by simp only [List.getElem?_toArray, List.getElem?_cons_succ, List.getElem?_cons_zero]; rfl) (Or.inl ⟨by rfl, ?_⟩) (by assumption) ?_
          rotate_left
          · ((intro w hSw; (try dsimp only at hSw); go_simp); (try with_reducible rfl))
          try simp only [Act.put, List.foldl_cons, List.foldl_nil, List.setIfInBounds_toArray, List.set_cons_zero, List.set_cons_succ]
          refine Gd.WT_take 33 (v := ?_) (by simp only [List.getElem?_toArray, List.getElem?_cons_succ, List.getElem?_cons_zero]; rfl) (Or.inl ⟨by rfl, ?_⟩) (by assumption) ?_
          rotate_left
          · ((intro w hSw; (try dsimp only at hSw); go_simp); (try with_reducible rfl))
          try simp only [Act.put, List.foldl_cons, List.foldl_nil, List.setIfInBounds_toArray, List.set_cons_zero, List.set_cons_succ]
          refine Gd.WT_take 34 (v := ?_) (by simp only [List.getElem?_toArray, List.getElem?_cons_succ, List.getElem?_cons_zero]; rfl) (Or.inl ⟨by rfl, ?_⟩) (by assumption) ?_
          rotate_left
          · ((intro w hSw; (try dsimp only at hSw); go_simp); (try with_reducible rfl))
          try simp only [Act.put, List.foldl_cons, List.foldl_nil, List.setIfInBounds_toArray, List.set_cons_zero, List.set_cons_succ]
          refine Gd.WT_take 35 (v := ?_) (by simp only [List.getElem?_toArray, List.getElem?_cons_succ, List.getElem?_cons_zero]; rfl) (Or.inl ⟨by rfl, ?_⟩) (by assumption) ?_
          rotate_left
          · ((intro w hSw; (try dsimp only at hSw); go_simp); (try with_reducible rfl))
          try simp only [Act.put, List.foldl_cons, List.foldl_nil, List.setIfInBounds_toArray, List.set_cons_zero, List.set_cons_succ]
          refine Gd.WT_end (by exact Nat.le_refl 36) ?_
          go_wp2_with fail
          go_meet
          case rel => exact ⟨_, rfl, fun h6 => ⟨by omega, by omega, by omega, (by first | trivial | rfl), fun _ => by rw [HGD.out]; exact h6⟩, by assumption⟩
      case rest =>
        obtain ⟨bb, rfl, hf, HBx⟩ := hcut
        have HLa := Lib.hid (HLr.out.trans (HAL.out.mono HLr.out.size))
        have HLc := Lib.hid (HLa.out.trans (HBx.out.mono HLa.out.size))
        have hsc := HLc.out.size
        have HBc := Lib.hid ((hbel.out.trans (HAL.out.mono hzr)).trans (HBx.out.mono (Nat.le_trans hzr HAL.out.size)))
        have hszc := HBc.out.size
        cases bb
        rotate_left
        · go_wp2_with fail
          refine (HMD.out _).mono ?_
          rintro e w5 ⟨rfl, hb5⟩
          have HW5 := Lib.hid (HLc.out.trans (hb5.mono hsc))
          clear hb5
          go_wp2_with fail
          go_ret
          exact ⟨by simp, HW5.out⟩
        obtain ⟨hv0, hv1, hs60, rfl, hlast⟩ := hf rfl
        have c0 : wc.cell? ⟨wr.heap.size, 0, none⟩ = some (.string s) := cell_of_heap ((HBx.out.block _ hgz).trans HG.out) 0
        have hRc := Kd.R_below (Kd.R_below hR.out HAL.out) HBx.out
        rw [HNS.out, HLN.out] at hRc
        have HRC := Lib.hid hRc
        have HLAST := Lib.hid hlast
        clear hf hRc hlast
        go_wp2_with (at_builtin; refine kapp (w0 := w1) Kd.string w1.heap.size rfl _ _ 45 9 (.string ⟨#[]⟩) 16 rfl Tryd.underlying45 (by kernel_rfl) rfl (by decide) (by decide) _ ns s [.string s] (fun _ => True) (fun _ => False) _ rfl rfl (by intro q u hq; rw [cell_of_heap (heap_new _ _)]; simpa using hq) rfl (fun _ h => h.elim) (fun _ _ => trivial) (Kd.R_alloc HRC.out _) (HBc.out.alloc hszc _) (by simp; omega) (by rw [HLN.out]; omega) ?_)
        intro v6 w6 hR6 hB6 hg6 hat6
        have HR6 := Lib.hid (show Kd.string.R 9 w6 w1.heap.size (fun _ => True) v6 ((l.take (k + 1)).map fun m => m.1) by
          rw [HT.out, List.map_append, HNS.out]; exact hR6)
        have HB6 := Lib.hid hB6
        have HV6 := Lib.hid (show ∀ m ∈ l.take (k + 1), (0 ≤ m.2 ∧ m.2 ≤ 100) ∧ m.1.size ≤ 60 by
          intro m hm
          rw [HT.out] at hm
          rcases List.mem_append.1 hm with hm | hm
          · exact hval.out m hm
          · rw [List.mem_singleton.1 hm]; exact ⟨⟨hv0, hv1⟩, hs60⟩)
        have HA6 := Lib.hid (show Asc (l.take (k + 1)) by
          rw [HT.out]
          refine asc_snoc hasc.out (by rw [HNS.out]; exact HBH.out) (fun h0 => ?_)
          have hk' : (l.take k).length = k := by rw [List.length_take]; omega
          rw [hk'] at h0 ⊢
          rw [HNS.out]
          have h9 := HLAST.out h0
          rw [ByteArray.toList_eq, ByteArray.toList_eq] at h9
          exact h9)
        clear hR6 hB6 hg6 hat6
        go_wp2_with fail
        exact ⟨⟨k + 1, by omega, by go_num, HA6, HV6, HR6, HB6⟩, by simp [intOf]; omega⟩
    · obtain rfl : k = l.length := by omega
      have HV := Lib.hid (show ∀ m ∈ l, (0 ≤ m.2 ∧ m.2 ≤ 100) ∧ m.1.size ≤ 60 by have := hval.out; rwa [List.take_length] at this)
      have HA := Lib.hid (show Asc l by have := hasc.out; rwa [List.take_length] at this)
      have hsr := HLr.out.size
      clear hasc hval hR hbel
      by_cases h30 : (30 : Int) < l.length
      · go_wp2_with fail
        refine (HMD.out _).mono ?_
        rintro e w5 ⟨rfl, hb5⟩
        have HW5 := Lib.hid (HLr.out.trans (hb5.mono hsr))
        clear hb5
        go_wp2_with fail
        go_ret
        exact ⟨by simp, HW5.out⟩
      have HGD := Lib.hid (show Good l from ⟨HA.out, fun m hm => (HV.out m hm).1, fun m hm => (HV.out m hm).2, by omega⟩)
      have HTU := Lib.hid (fun W (h : kMk.C W A l.length l) => turned_any A c l n hn W hcap h (by omega))
      obtain ⟨l', hl'⟩ : ∃ l', turnL l n = l' := ⟨_, rfl⟩
      have hpm := turnL_perm l n
      rw [hl'] at hpm HTU
      have HPM := Lib.hid hpm
      clear hl' hpm HV HA
      go_wp2_with fail
      refine (metaAgain_any A c l l wr (Kd.C_below HC.out HLr.out) (List.Perm.refl _) HGD.out).mono ?_
      rintro e w2 ⟨A2, c2, rfl, hC2, hb2⟩
      have HL2 := Lib.hid (HLr.out.trans (hb2.mono hsr))
      have hs2 := HL2.out.size
      have HC2 := Lib.hid hC2
      clear hC2 hb2
      go_wp2_with fail
      refine (HTU.out w2 (Kd.C_below HC.out HL2.out)).mono ?_
      rintro e w3 ⟨v3, rfl, hR3, hb3⟩
      obtain ⟨A3, c3, rfl, _, hC3⟩ := Kd.R_reads hR3
      have HL3 := Lib.hid (HL2.out.trans (hb3.mono hs2))
      have hs3 := HL3.out.size
      have HC3 := Lib.hid hC3
      have HD3 := Lib.hid (Kd.C_below HC2.out hb3)
      clear hR3 hC3 hb3
      go_wp2_with fail
      refine (metaAgain_any A3 c3 l l' w3 HC3.out HPM.out HGD.out).mono ?_
      rintro e w4 ⟨A4, c4, rfl, hC4, hb4⟩
      have HL4 := Lib.hid (HL3.out.trans (hb4.mono hs3))
      have hs4 := HL4.out.size
      have HC4 := Lib.hid hC4
      have HD4 := Lib.hid (Kd.C_below HD3.out hb4)
      clear hC4 hb4
      go_wp2_with fail
      refine (metaBytes_any A c l l w4 (Kd.C_below HC.out HL4.out) (List.Perm.refl _) HGD.out).mono ?_
      rintro e w5 ⟨g5, cap5, cur5, rfl, _, hk5, hcp5, _, ht5, hb5⟩
      have HL5 := Lib.hid (HL4.out.trans (hb5.mono hs4))
      have hs5 := HL5.out.size
      have HY5 := Lib.hid (C_of_src (src_of hk5 ht5) (by rw [wire_len]; have := wireL_len l HGD.out.nam; have := HGD.out.len; omega))
      have HD5 := Lib.hid (Kd.C_below HD4.out hb5)
      have HE5 := Lib.hid (Kd.C_below HC4.out hb5)
      clear hk5 ht5 hb5
      go_wp2_with fail
      refine (HTU.out w5 (Kd.C_below HC.out HL5.out)).mono ?_
      rintro e w6 ⟨v6, rfl, hR6, hb6⟩
      obtain ⟨A6, c6, rfl, _, hC6⟩ := Kd.R_reads hR6
      have HL6 := Lib.hid (HL5.out.trans (hb6.mono hs5))
      have hs6 := HL6.out.size
      have HC6 := Lib.hid hC6
      have HY6 := Lib.hid (Kd.C_below HY5.out hb6)
      have HD6 := Lib.hid (Kd.C_below HD5.out hb6)
      have HE6 := Lib.hid (Kd.C_below HE5.out hb6)
      clear hR6 hC6 hb6
      go_wp2_with fail
      refine (metaBytes_any A6 c6 l l' w6 HC6.out HPM.out HGD.out).mono ?_
      rintro e w7 ⟨g7, cap7, cur7, rfl, _, hk7, hcp7, _, ht7, hb7⟩
      have HL7 := Lib.hid (HL6.out.trans (hb7.mono hs6))
      have hs7 := HL7.out.size
      have HZ7 := Lib.hid (C_of_src (src_of hk7 ht7) (by rw [wire_len]; have := wireL_len l HGD.out.nam; have := HGD.out.len; omega))
      have HY7 := Lib.hid (Kd.C_below HY6.out hb7)
      have HD7 := Lib.hid (Kd.C_below HD6.out hb7)
      have HE7 := Lib.hid (Kd.C_below HE6.out hb7)
      clear hk7 ht7 hb7
      go_wp2_with fail
      refine (sameMark_eq A2 A c2 c l w7 HD7.out (Kd.C_below HC.out HL7.out)).mono ?_
      rintro e w8 ⟨rfl, hb8⟩
      have HL8 := Lib.hid (HL7.out.trans (hb8.mono hs7))
      have hs8 := HL8.out.size
      have HZ8 := Lib.hid (Kd.C_below HZ7.out hb8)
      have HY8 := Lib.hid (Kd.C_below HY7.out hb8)
      have HE8 := Lib.hid (Kd.C_below HE7.out hb8)
      clear hb8
      go_wp2_with fail
      refine (sameMark_eq A4 A c4 c l w8 HE8.out (Kd.C_below HC.out HL8.out)).mono ?_
      rintro e w9 ⟨rfl, hb9⟩
      have HL9 := Lib.hid (HL8.out.trans (hb9.mono hs8))
      have hs9 := HL9.out.size
      have HZ9 := Lib.hid (Kd.C_below HZ8.out hb9)
      have HY9 := Lib.hid (Kd.C_below HY8.out hb9)
      clear hb9
      go_wp2_with fail
      refine (sameU8_any (some ⟨g5, 0, none⟩) (some ⟨g7, 0, none⟩) cap5 cap7 (wire l) (wire l) w9 HY9.out HZ9.out).mono ?_
      rintro e w10 ⟨rfl, hb10⟩
      have HL10 := Lib.hid (HL9.out.trans (hb10.mono hs9))
      have hs10 := HL10.out.size
      clear hb10
      rw [show decide (wire l = wire l) = true from decide_eq_true rfl]
      go_wp2_with fail
      refine (HMD.out _).mono ?_
      rintro e w11 ⟨rfl, hb11⟩
      have HL11 := Lib.hid (HL10.out.trans (hb11.mono hs10))
      clear hb11
      go_wp2_with fail
      go_ret
      exact ⟨by simp, HL11.out⟩
end Go.Proofs.YtaniafohcaiedaaDoor.M
