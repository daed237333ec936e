/-
  The walk of laws.FnTrieWithout.
-/
import Derived.Test.YtjifoimkjgepcaaEw
import Derived.Test.YtjifoimkjgepcaaGd
set_option linter.unusedVariables false
set_option linter.unusedSimpArgs false
namespace Go.Proofs.Ytjifoimkjgepcaa.Da
open Go.RowKit Go.ChangeShapes Go.Proofs.Ytjifoimkjgepcaa.K Go.Proofs.YtjifoimkjgepcaaW.PrintWords

/-- Two rows of other kinds: one grows, the other stands. -/
theorem rows_apart {α β : Type} {d1 : Kd α} {d2 : Kd β} {e1 e2 : Nat} {W w1 : World} {b : Nat} {ok ok' : Nat → Prop} {v u : Value} {xs : List α} {ys : List β} (h1 : d1.R e1 W b ok v xs) (h2 : d2.R e2 W b ok' u ys) (ht : ∀ q, q ∈ e2 :: d2.E → q ≠ e1) (hg : W.grownBy w1 v.ownBlock) : d2.R e2 w1 b ok' u ys := by
  obtain ⟨inner, ho⟩ := Kd.R_own h1
  refine Kd.R_mono (Kd.R_grown (Kd.R_mono (Kd.R_bound h2) (ok' := fun k => ok' k ∧ some k ≠ v.ownBlock) (fun k hk => ⟨hk.1, fun e => ?_⟩)) hg (fun k hk => hk.2)) (fun k hk => hk.1)
  obtain ⟨_, _, _, q, hq, cells, hc⟩ := hk
  obtain ⟨cells', hc'⟩ := own_typed ho k e.symm
  rw [hc] at hc'
  injection hc' with hc'
  injection hc' with _ hc'
  exact ht q hq hc'
theorem sumL_drop_le (xs : List ByteArray) (j : Nat) : sumL (xs.take j) + sumL (xs.drop j) = sumL xs := by
  rw [← sumL_append, List.take_append_drop]
theorem keys_less {keys : List ByteArray} {ids : List Int} {k : Nat} (hK : Keys keys ids) (h : Ord keys true) (hl : ids.length = keys.length) (hk : k < keys.length) (h2 : 2 ≤ keys.length) (hs : sumL keys ≤ 4000) : Keys (lessK keys k) (lessI ids k) := by
  refine keys_of (ord_less h hk h2) (fun x hx => ?_) (by rw [less_length hk, lessI_length (by omega), hl]) ?_
  · unfold lessI at hx
    rcases List.mem_append.1 hx with hx | hx
    · exact hK.idr x (List.mem_of_mem_take hx)
    · exact hK.idr x (List.mem_of_mem_drop hx)
  · unfold lessK
    rw [sumL_append]
    have h1 := sumL_drop_le keys (k + 1)
    have h3 := sumL_take_succ hk
    omega
theorem hits_range : ∀ (ks : Ks) (s : List Nat) (i : Nat), ∀ h ∈ hitsF ks s i, (i : Int) < h.2 ∧ h.2 ≤ i + s.length
  | ks, [], i, h, hm => by simp [hitsF] at hm
  | ks, a :: s, i, h, hm => by
    rw [hitsF] at hm
    rcases List.mem_append.1 hm with hm | hm
    · unfold hitAt at hm
      split at hm
      · rw [List.mem_singleton.1 hm]
        simp only [List.length_cons]
        omega
      · cases hm
    · have := hits_range (tails a ks) s (i + 1) h hm
      simp only [List.length_cons]
      omega
theorem cut_eq (s x : ByteArray) (n : Nat) : ((s.extract 0 n).toList == x.toList) = decide ((bl s).take n = bl x) := by
  rw [ByteArray.toList_eq, ByteArray.toList_eq]
  have h1 : (s.extract 0 n).data.toList = s.data.toList.take n := by simp
  rw [h1]
  unfold bl
  rw [← List.map_take]
  by_cases h : s.data.toList.take n = x.data.toList
  · simp [h]
  · have h2 : ¬ (s.data.toList.take n).map UInt8.toNat = x.data.toList.map UInt8.toNat := fun e => h ((List.map_inj_right (fun x y h => UInt8.toNat.inj h)).1 e)
    rw [decide_eq_false h2]
    simpa using h
theorem infoStr : (Try.prog.info? 9).map (fun i => (i.zero, i.size, i.bytes)) = some (some (.string ⟨#[]⟩), 1, 16) := by kernel_rfl
theorem infoIntE : (Try.prog.info? 3).map (fun i => (i.zero, i.size, i.bytes)) = some (some (.int .i64 0), 1, 8) := by kernel_rfl

set_option maxHeartbeats 4000000 in
set_option maxRecDepth 100000 in
theorem trieWithout_walk (Ak Ai : Option Addr) (ck ci : Nat) (keys : List ByteArray) (ids : List Int) (at_ : Int) (s : ByteArray) (w : World) (hkC : Kd.string.C w Ak keys.length keys) (hkc : keys.length ≤ ck) (hiC : (Kd.int .i64).C w Ai ids.length ids) (hic : ids.length ≤ ci) (hat : -9223372036854775808 ≤ at_ ∧ at_ ≤ 9223372036854775807) :
    Calls Try.prog 8 #[.slice Ak keys.length ck, .slice Ai ids.length ci, .int .i64 at_, .string s] w fun e w' => e = .returned (.bool true) ∧ Below w.heap.size w w' := by
  have HKC := Lib.hid hkC
  have HIC := Lib.hid hiC
  have HKc := Lib.hid hkc
  have HIc := Lib.hid hic
  clear hkC hiC hkc hic
  obtain ⟨i0, hi0, _, hsz0, _⟩ := info_parts infoStr
  obtain ⟨i1, hi1, _, hsz1, _⟩ := info_parts infoIntE
  go_enter Try.func8, Try.ntmps8
  go_wp2_with fail
  refine (zzFits3_any Ak ck keys w HKC.out).mono ?_
  rintro e w1 ⟨b0, rfl, hb, hw⟩
  have HFT0 := Lib.hid hb
  have HL1 := Lib.hid hw
  clear hb hw
  cases b0
  · go_wp2
    go_ret
    exact ⟨rfl, HL1.out⟩
  have HFT := Lib.hid (HFT0.out (by trivial))
  by_cases hbig1 : 2147483647 < (ids.length : Int)
  · go_wp2
    go_ret
    exact ⟨rfl, HL1.out⟩
  by_cases hbig2 : 2147483647 < (s.size : Int)
  · go_wp2
    go_ret
    exact ⟨rfl, HL1.out⟩
  have hss : s.size ≤ 2147483647 := by omega
  have hkl := HFT.out.1
  go_wp2_with fail
  have HLq := Lib.hid (HL1.out.alloc HL1.out.size (.cells #[.string s] 9))
  refine (few_two _ Ak (some ⟨w1.heap.size, 0, none⟩) ck 1 keys [s] (w1.alloc (.cells #[.string s] 9)) (Kd.C_alloc (Kd.C_below HKC.out HL1.out) _) HKc.out HFT.out (strs_new w1 s) (by simp) ⟨by simp, by simpa using hss⟩ (by simp)).mono ?_
  rintro e w2 ⟨b3, rfl, hb, hw⟩
  have HS := Lib.hid hb
  have HL2 := Lib.hid (HLq.out.trans (hw.mono HLq.out.size))
  clear hb hw
  cases b3
  · go_wp2_with fail
    refine (builds_any w2).mono ?_
    rintro e wf ⟨rfl, hwf⟩
    have HLf := Lib.hid (HL2.out.trans (hwf.mono HL2.out.size))
    clear hwf
    go_wp2_with fail
    go_ret
    exact ⟨rfl, HLf.out⟩
  go_wp2_with fail
  refine (ordered_any Ak ck keys true w2 (Kd.C_below HKC.out HL2.out) HFT.out).mono ?_
  rintro e w3 ⟨b4, rfl, hb, hw⟩
  have HO := Lib.hid hb
  have HL3 := Lib.hid (HL2.out.trans (hw.mono HL2.out.size))
  clear hb hw
  cases b4
  · go_wp2_with fail
    refine (builds_any w3).mono ?_
    rintro e wf ⟨rfl, hwf⟩
    have HLf := Lib.hid (HL3.out.trans (hwf.mono HL3.out.size))
    clear hwf
    go_wp2_with fail
    go_ret
    exact ⟨rfl, HLf.out⟩
  go_wp2_with fail
  refine (goodIDs_any Ai ci ids keys.length w3 (Kd.C_below HIC.out HL3.out) hkl).mono ?_
  rintro e wq ⟨b5, rfl, hb, rfl⟩
  have HG := Lib.hid hb
  clear hb
  cases b5
  · go_wp2_with fail
    refine (builds_any wq).mono ?_
    rintro e wf ⟨rfl, hwf⟩
    have HLf := Lib.hid (HL3.out.trans (hwf.mono HL3.out.size))
    clear hwf
    go_wp2_with fail
    go_ret
    exact ⟨rfl, HLf.out⟩
  go_wp2_with fail
  have HLc := Lib.hid (HL3.out.alloc HL3.out.size (.cells #[.string s] 9))
  refine (clean_one _ s _ hss (heap_new wq _)).mono ?_
  rintro e wc ⟨b6, rfl, hb, hwc⟩
  have HZ := Lib.hid hb
  rw [← hwc] at HLc
  clear hb hwc
  cases b6
  · go_wp2_with fail
    refine (builds_any wc).mono ?_
    rintro e wf ⟨rfl, hwf⟩
    have HLf := Lib.hid (HLc.out.trans (hwf.mono HLc.out.size))
    clear hwf
    go_wp2_with fail
    go_ret
    exact ⟨rfl, HLf.out⟩
  by_cases hc7 : keys.length < 2
  · go_wp2_with fail
    refine (builds_any wc).mono ?_
    rintro e wf ⟨rfl, hwf⟩
    have HLf := Lib.hid (HLc.out.trans (hwf.mono HLc.out.size))
    clear hwf
    go_wp2_with fail
    go_ret
    exact ⟨rfl, HLf.out⟩
  by_cases hc8 : at_ < 0
  · go_wp2_with fail
    refine (builds_any wc).mono ?_
    rintro e wf ⟨rfl, hwf⟩
    have HLf := Lib.hid (HLc.out.trans (hwf.mono HLc.out.size))
    clear hwf
    go_wp2_with fail
    go_ret
    exact ⟨rfl, HLf.out⟩
  by_cases hc9 : (keys.length : Int) ≤ at_
  · go_wp2_with fail
    refine (builds_any wc).mono ?_
    rintro e wf ⟨rfl, hwf⟩
    have HLf := Lib.hid (HLc.out.trans (hwf.mono HLc.out.size))
    clear hwf
    go_wp2_with fail
    go_ret
    exact ⟨rfl, HLf.out⟩
  obtain ⟨k, rfl⟩ : ∃ k : Nat, at_ = k := ⟨at_.toNat, by omega⟩
  have hk : k < keys.length := by omega
  have HIL := Lib.hid (HG.out (by trivial)).2
  have hsum : sumL keys ≤ 4000 := by have := HS.out (by trivial); omega
  have hk4 : keys.length ≤ 4000 := Nat.le_trans (len_le_sum _) hsum
  have HK := Lib.hid (keys_of (HO.out.1 (by trivial)) (HG.out (by trivial)).1 (HG.out (by trivial)).2 hsum)
  go_wp2_with fail
  refine (lawTrie_any Ak Ai ck ci keys ids s wc HK.out (Kd.C_below HKC.out HLc.out) (Kd.C_below HIC.out HLc.out) (HZ.out.1 (by trivial)) hss).mono ?_
  rintro e wa ⟨A1, c1, A2, c2, rfl, hC1, hC2, hw⟩
  have HLa := Lib.hid (HLc.out.trans (hw.mono HLc.out.size))
  have HC1 := Lib.hid hC1
  clear hC1 hC2 hw
  obtain ⟨a, ha⟩ : ∃ a, ansF (ksAll keys ids) s = a := ⟨_, rfl⟩
  rw [ha] at HC1 ⊢
  have HA := Lib.hid ha
  clear ha
  obtain ⟨k1, hk1⟩ : ∃ k1, k1 = k + 1 := ⟨_, rfl⟩
  have hadd : (k : Int) + 1 = (k1 : Int) := by omega
  have hwk : IntKind.i64.wrap (k1 : Int) = (k1 : Int) := IntWalk.i64_in _ (by omega)
  obtain ⟨m, hm⟩ : ∃ m, keys.length - k1 = m := ⟨_, rfl⟩
  obtain ⟨mi, hmi⟩ : ∃ mi, ids.length - k1 = mi := ⟨_, rfl⟩
  have hil4 : ids.length ≤ 4000 := by rw [HIL.out]; exact hk4
  have hcS1 := cut_to (P := Try.prog) 28 9 .i64 Try.underlying28 hi0 Ak keys.length ck (k : Int) (by omega) (by omega) HKc.out
  have hcS2 := cut_from (P := Try.prog) 28 9 .i64 Try.underlying28 hi0 1 hsz0 Ak keys.length ck (k1 : Int) (by omega) (by omega)
  have hcI1 := cut_to (P := Try.prog) 29 3 .i64 Try.underlying29 hi1 Ai ids.length ci (k : Int) (by omega) (by rw [HIL.out]; omega) HIc.out
  have hcI2 := cut_from (P := Try.prog) 29 3 .i64 Try.underlying29 hi1 1 hsz1 Ai ids.length ci (k1 : Int) (by omega) (by rw [HIL.out]; omega)
  rw [Int.toNat_natCast] at hcS1 hcI1
  rw [Int.toNat_natCast, Nat.mul_one, hm] at hcS2
  rw [Int.toNat_natCast, Nat.mul_one, hmi] at hcI2
  obtain ⟨As, hAs⟩ : ∃ A, (if ck = k1 then Ak else Ak.map (·.add k1)) = A := ⟨_, rfl⟩
  obtain ⟨Aq, hAq⟩ : ∃ A, (if ci = k1 then Ai else Ai.map (·.add k1)) = A := ⟨_, rfl⟩
  rw [hAs] at hcS2
  rw [hAq] at hcI2
  have HR1 : Hid (Kd.string.C w Ak k (keys.take k)) := Lib.hid (by have := Kd.C_take (m := k) HKC.out (by omega); rw [List.length_take, Nat.min_eq_left (by omega)] at this; exact this)
  have HR2 : Hid (Kd.string.C w As m (keys.drop k1)) := Lib.hid (by have := Kd.C_drop (m := k1) (c := ck) HKC.out (by omega) HKc.out; rw [show Kd.string.sz = 1 from rfl, Nat.mul_one, List.length_drop, hAs, hm] at this; exact this)
  have HR3 : Hid ((Kd.int .i64).C w Ai k (ids.take k)) := Lib.hid (by have := Kd.C_take (m := k) HIC.out (by rw [HIL.out]; omega); rw [List.length_take, Nat.min_eq_left (by rw [HIL.out]; omega)] at this; exact this)
  have HR4 : Hid ((Kd.int .i64).C w Aq mi (ids.drop k1)) := Lib.hid (by have := Kd.C_drop (m := k1) (c := ci) HIC.out (by rw [HIL.out]; omega) HIc.out; rw [show (Kd.int .i64).sz = 1 from rfl, Nat.mul_one, List.length_drop, hAq, hmi] at this; exact this)
  have hl1 : (([] : List ByteArray).length + k) * 16 ≤ 140737488355328 := by simp; omega
  have hl2 : ((keys.take k).length + m) * 16 ≤ 140737488355328 := by rw [List.length_take]; omega
  have hl3 : (([] : List Int).length + k) * 8 ≤ 140737488355328 := by simp; omega
  have hl4 : ((ids.take k).length + mi) * 8 ≤ 140737488355328 := by rw [List.length_take]; omega
  have HL1 := Lib.hid hl1
  have HL2 := Lib.hid hl2
  have HL3 := Lib.hid hl3
  have HL4 := Lib.hid hl4
  have HK1 := Lib.hid hk1
  clear hl1 hl2 hl3 hl4 hm hmi hAs hAq hk1 hi0 hi1 hsz0 hsz1
  go_upto_region 6 with fail
  obtain ⟨wv, hwv⟩ : ∃ wv, wv = wa.alloc (.cells #[.int .i64 a.1.1, .bool a.1.2, .int .i64 a.2.1.1, .bool a.2.1.2, .slice A1 a.2.2.1.length c1, .slice A2 a.2.2.2.length c2] tAns) := ⟨_, rfl⟩
  have HLv : Hid (Below w.heap.size w wv) := Lib.hid (by rw [hwv]; exact HLa.out.alloc HLa.out.size _)
  have hav : AnsAt wa.heap.size (.int .i64 a.1.1) (.bool a.1.2) (.int .i64 a.2.1.1) (.bool a.2.1.2) (.slice A1 a.2.2.1.length c1) (.slice A2 a.2.2.2.length c2) wv := by rw [hwv]; exact heap_new wa _
  have hC1v : kHit.C wv A1 a.2.2.1.length a.2.2.1 := by rw [hwv]; exact Kd.C_alloc HC1.out _
  have HAV := Lib.hid hav
  have HCV := Lib.hid hC1v
  rw [← hwv]
  clear hwv hav hC1v
  obtain ⟨pa, hpa⟩ : ∃ pa, pa = wa.heap.size := ⟨_, rfl⟩
  rw [← hpa] at HAV ⊢
  clear hpa
  go_cut [11, 12] (fun vs vi wx => ∃ vs' vi' : Value, vs = vs' ∧ vi = vi' ∧ Hid (Kd.string.R 9 wx wv.heap.size (fun _ => True) vs' (keys.take k ++ keys.drop k1)) ∧ Hid ((Kd.int .i64).R 3 wx wv.heap.size (fun _ => True) vi' (ids.take k ++ ids.drop k1)) ∧ Hid (Below wv.heap.size wv wx))
  case first =>
    refine wp_region_held_drew (S := fun _ => True) (by kernel_rfl) trivial (fun hHeld => ?_)
    have HDv := Lib.hid (Below.refl wv.heap.size wv).drew
    have HW1 := Lib.hid (Kd.C_below HR1.out HLv.out.drew)
    have HW2 := Lib.hid (Kd.C_below HR2.out HLv.out.drew)
    have HW3 := Lib.hid (Kd.C_below HR3.out HLv.out.drew)
    have HW4 := Lib.hid (Kd.C_below HR4.out HLv.out.drew)
    generalize wv.drew = wd at HDv HW1 HW2 HW3 HW4 ⊢
    have HBwd := Lib.hid (Below.refl wd.heap.size wd)
    refine Gd.take 1 (v := ?_) (by simp only [List.getElem?_toArray, List.getElem?_cons_succ, List.getElem?_cons_zero]; rfl) (by kernel_rfl) (by kernel_rfl) (by kernel_rfl) (fun _ _ _ _ h => h) (Or.inl ⟨by rfl, ?_⟩) trivial ?_
    rotate_left
    · ((intro w hSw; (try dsimp only at hSw); go_simp); (try with_reducible rfl))
    try simp only [Act.put, List.foldl_cons, List.foldl_nil, List.setIfInBounds_toArray, List.set_cons_zero, List.set_cons_succ]
    refine Gd.take 2 (v := ?_) (by simp only [List.getElem?_toArray, List.getElem?_cons_succ, List.getElem?_cons_zero]; rfl) (by kernel_rfl) (by kernel_rfl) (by kernel_rfl) (fun _ _ _ _ h => h) (Or.inl ⟨by rfl, ?_⟩) trivial ?_
    rotate_left
    · ((intro w hSw; (try dsimp only at hSw); go_simp); (try with_reducible rfl))
    try simp only [Act.put, List.foldl_cons, List.foldl_nil, List.setIfInBounds_toArray, List.set_cons_zero, List.set_cons_succ]
    refine Gd.take 3 (v := ?_) (by simp only [List.getElem?_toArray, List.getElem?_cons_succ, List.getElem?_cons_zero]; rfl) (by kernel_rfl) (by kernel_rfl) (by kernel_rfl) (fun _ _ _ _ h => h) (Or.inl ⟨by rfl, ?_⟩) trivial ?_
    rotate_left
    · ((intro w hSw; (try dsimp only at hSw); go_simp); (try with_reducible rfl))
    try simp only [Act.put, List.foldl_cons, List.foldl_nil, List.setIfInBounds_toArray, List.set_cons_zero, List.set_cons_succ]
    refine Gd.take 5 (v := ?_) (by simp only [List.getElem?_toArray, List.getElem?_cons_succ, List.getElem?_cons_zero]; rfl) (by kernel_rfl) (by kernel_rfl) (by kernel_rfl) (fun _ _ _ _ h => h) (Or.inl ⟨by rfl, ?_⟩) trivial ?_
    rotate_left
    · ((intro w hSw; (try dsimp only at hSw); go_simp); (try with_reducible rfl))
    try simp only [Act.put, List.foldl_cons, List.foldl_nil, List.setIfInBounds_toArray, List.set_cons_zero, List.set_cons_succ]
    refine Gd.take 6 (v := ?_) (by simp only [List.getElem?_toArray, List.getElem?_cons_succ, List.getElem?_cons_zero]; rfl) (by kernel_rfl) (by kernel_rfl) (by kernel_rfl) (fun _ _ _ _ h => h) (Or.inl ⟨by rfl, ?_⟩) trivial ?_
    rotate_left
    · ((intro w hSw; (try dsimp only at hSw); go_simp); (try with_reducible rfl))
    try simp only [Act.put, List.foldl_cons, List.foldl_nil, List.setIfInBounds_toArray, List.set_cons_zero, List.set_cons_succ]
    refine Gd.take 7 (v := ?_) (by simp only [List.getElem?_toArray, List.getElem?_cons_succ, List.getElem?_cons_zero]; rfl) (by kernel_rfl) (by kernel_rfl) (by kernel_rfl) (fun _ _ _ _ h => h) (Or.inl ⟨by rfl, ?_⟩) trivial ?_
    rotate_left
    · ((intro w hSw; (try dsimp only at hSw); go_simp); (try with_reducible rfl))
    try simp only [Act.put, List.foldl_cons, List.foldl_nil, List.setIfInBounds_toArray, List.set_cons_zero, List.set_cons_succ]
    refine Gd.take 8 (v := ?_) (by simp only [List.getElem?_toArray, List.getElem?_cons_succ, List.getElem?_cons_zero]; rfl) (by kernel_rfl) (by kernel_rfl) (by kernel_rfl) (fun _ _ _ _ h => h) (Or.inl ⟨by rfl, ?_⟩) trivial ?_
    rotate_left
    · ((intro w hSw; (try dsimp only at hSw); go_simp); (try with_reducible rfl))
    try simp only [Act.put, List.foldl_cons, List.foldl_nil, List.setIfInBounds_toArray, List.set_cons_zero, List.set_cons_succ]
    refine Gd.take 11 (v := ?_) (by simp only [List.getElem?_toArray, List.getElem?_cons_succ, List.getElem?_cons_zero]; rfl) (by kernel_rfl) (by kernel_rfl) (by kernel_rfl) (fun _ _ _ _ h => h) (Or.inl ⟨by rfl, ?_⟩) trivial ?_
    rotate_left
    · ((intro w hSw; (try dsimp only at hSw); go_simp); (try with_reducible rfl))
    try simp only [Act.put, List.foldl_cons, List.foldl_nil, List.setIfInBounds_toArray, List.set_cons_zero, List.set_cons_succ]
    refine Gd.take 12 (v := ?_) (by simp only [List.getElem?_toArray, List.getElem?_cons_succ, List.getElem?_cons_zero]; rfl) (by kernel_rfl) (by kernel_rfl) (by kernel_rfl) (fun _ _ _ _ h => h) (Or.inl ⟨by rfl, ?_⟩) trivial ?_
    rotate_left
    · ((intro w hSw; (try dsimp only at hSw); go_simp); (try with_reducible rfl))
    try simp only [Act.put, List.foldl_cons, List.foldl_nil, List.setIfInBounds_toArray, List.set_cons_zero, List.set_cons_succ]
    refine Gd.take 13 (v := ?_) (by simp only [List.getElem?_toArray, List.getElem?_cons_succ, List.getElem?_cons_zero]; rfl) (by kernel_rfl) (by kernel_rfl) (by kernel_rfl) (fun _ _ _ _ h => h) (Or.inl ⟨by rfl, ?_⟩) trivial ?_
    rotate_left
    · ((intro w hSw; (try dsimp only at hSw); go_simp); (try with_reducible rfl))
    try simp only [Act.put, List.foldl_cons, List.foldl_nil, List.setIfInBounds_toArray, List.set_cons_zero, List.set_cons_succ]
    refine Gd.take 15 (v := ?_) (by simp only [List.getElem?_toArray, List.getElem?_cons_succ, List.getElem?_cons_zero]; rfl) (by kernel_rfl) (by kernel_rfl) (by kernel_rfl) (fun _ _ _ _ h => h) (Or.inl ⟨by rfl, ?_⟩) trivial ?_
    rotate_left
    · ((intro w hSw; (try dsimp only at hSw); go_simp); (try with_reducible rfl))
    try simp only [Act.put, List.foldl_cons, List.foldl_nil, List.setIfInBounds_toArray, List.set_cons_zero, List.set_cons_succ]
    refine Gd.take 16 (v := ?_) (by simp only [List.getElem?_toArray, List.getElem?_cons_succ, List.getElem?_cons_zero]; rfl) (by kernel_rfl) (by kernel_rfl) (by kernel_rfl) (fun _ _ _ _ h => h) (Or.inl ⟨by rfl, ?_⟩) trivial ?_
    rotate_left
    · ((intro w hSw; (try dsimp only at hSw); go_simp); (try with_reducible rfl))
    try simp only [Act.put, List.foldl_cons, List.foldl_nil, List.setIfInBounds_toArray, List.set_cons_zero, List.set_cons_succ]
    refine Gd.take 17 (v := ?_) (by simp only [List.getElem?_toArray, List.getElem?_cons_succ, List.getElem?_cons_zero]; rfl) (by kernel_rfl) (by kernel_rfl) (by kernel_rfl) (fun _ _ _ _ h => h) (Or.inl ⟨by rfl, ?_⟩) trivial ?_
    rotate_left
    · ((intro w hSw; (try dsimp only at hSw); go_simp); (try with_reducible rfl))
    try simp only [Act.put, List.foldl_cons, List.foldl_nil, List.setIfInBounds_toArray, List.set_cons_zero, List.set_cons_succ]
    refine Gd.take 18 (v := ?_) (by simp only [List.getElem?_toArray, List.getElem?_cons_succ, List.getElem?_cons_zero]; rfl) (by kernel_rfl) (by kernel_rfl) (by kernel_rfl) (fun _ _ _ _ h => h) (Or.inl ⟨by rfl, ?_⟩) trivial ?_
    rotate_left
    · ((intro w hSw; (try dsimp only at hSw); go_simp); (try with_reducible rfl))
    try simp only [Act.put, List.foldl_cons, List.foldl_nil, List.setIfInBounds_toArray, List.set_cons_zero, List.set_cons_succ]
    refine wpAnyH_ready (rs := [0, 10]) (by kernel_rfl) (by simp) (AllReadyH.cons (by simp only [List.getElem?_toArray, List.getElem?_cons_succ, List.getElem?_cons_zero]; rfl) (fun K hK => ?_) (AllReadyH.cons (by simp only [List.getElem?_toArray, List.getElem?_cons_succ, List.getElem?_cons_zero]; rfl) (fun K hK => ?_) AllReadyH.nil))
    · go_simp
      have HBwy1 := Lib.hid (HBwd.out.alloc HBwd.out.size (.cells #[] 9))
      have Hswy1 := Lib.hid (R_empty Kd.string 9 wd wd.heap.size HBwd.out.size)
      obtain ⟨vwy1, hvwy1⟩ : ∃ v, v = Value.slice (some ⟨wd.heap.size, 0, none⟩) 0 0 := ⟨_, rfl⟩
      rw [← hvwy1] at Hswy1 ⊢
      clear hvwy1
      generalize wd.alloc (.cells #[] 9) = wy1 at HBwy1 Hswy1 ⊢
      refine hK.out _ _ trivial (fun hHeld => ?_)
      clear hK K
      try simp only [Act.put, List.foldl_cons, List.foldl_nil, List.setIfInBounds_toArray, List.set_cons_zero, List.set_cons_succ]
      refine wpAnyH_ready (rs := [4, 10]) (by kernel_rfl) (by simp) (AllReadyH.cons (by simp only [List.getElem?_toArray, List.getElem?_cons_succ, List.getElem?_cons_zero]; rfl) (fun K hK => ?_) (AllReadyH.cons (by simp only [List.getElem?_toArray, List.getElem?_cons_succ, List.getElem?_cons_zero]; rfl) (fun K hK => ?_) AllReadyH.nil))
      · refine Kd.R_append_rows_step Kd.string (w0 := wd) wd.heap.size rfl (.tmp 78) (.tmp 81) 28 9 (.string ⟨#[]⟩) 16 rfl Try.underlying28 infoStr rfl Nat.one_pos (by decide) vwy1 ([]) (keys.take k) Ak k (ck) (fun _ => True) (fun _ => False) rfl rfl Hswy1.out (Kd.C_below HW1.out HBwy1.out) (fun _ _ h => h) (fun _ h => h.elim) (fun _ _ => trivial) HBwy1.out HBwy1.out.size HL1.out ?_
        intro vwy2 wy2 hR hB hg hat
        rw [List.nil_append] at hR
        have Hswy2 := Lib.hid hR
        have HBwy2 := Lib.hid hB
        clear hR hB hg hat
        refine hK.out _ _ trivial (fun hHeld => ?_)
        clear hK K
        try simp only [Act.put, List.foldl_cons, List.foldl_nil, List.setIfInBounds_toArray, List.set_cons_zero, List.set_cons_succ]
        refine wpAnyH_ready (rs := [9, 10]) (by kernel_rfl) (by simp) (AllReadyH.cons (by simp only [List.getElem?_toArray, List.getElem?_cons_succ, List.getElem?_cons_zero]; rfl) (fun K hK => ?_) (AllReadyH.cons (by simp only [List.getElem?_toArray, List.getElem?_cons_succ, List.getElem?_cons_zero]; rfl) (fun K hK => ?_) AllReadyH.nil))
        · refine Kd.R_append_rows_step Kd.string (w0 := wd) wd.heap.size rfl (.tmp 82) (.tmp 86) 28 9 (.string ⟨#[]⟩) 16 rfl Try.underlying28 infoStr rfl Nat.one_pos (by decide) vwy2 (keys.take k) (keys.drop k1) As m (ck - k1) (fun _ => True) (fun _ => False) rfl rfl Hswy2.out (Kd.C_below HW2.out HBwy2.out) (fun _ _ h => h) (fun _ h => h.elim) (fun _ _ => trivial) HBwy2.out HBwy2.out.size HL2.out ?_
          intro vwy3 wy3 hR hB hg hat
          have Hswy3 := Lib.hid hR
          have HBwy3 := Lib.hid hB
          clear hR hB hg hat
          refine hK.out _ _ trivial (fun hHeld => ?_)
          clear hK K
          try simp only [Act.put, List.foldl_cons, List.foldl_nil, List.setIfInBounds_toArray, List.set_cons_zero, List.set_cons_succ]
          refine wpAnyH_ready (rs := [10]) (by kernel_rfl) (by simp) (AllReadyH.cons (by simp only [List.getElem?_toArray, List.getElem?_cons_succ, List.getElem?_cons_zero]; rfl) (fun K hK => ?_) AllReadyH.nil)
          go_simp
          have HBwy4 := Lib.hid (HBwy3.out.alloc HBwy3.out.size (.cells #[] 3))
          have Hiwy4 := Lib.hid (R_empty (Kd.int .i64) 3 wy3 wd.heap.size HBwy3.out.size)
          have Hswy4 := Lib.hid (Kd.R_alloc Hswy3.out (.cells #[] 3))
          obtain ⟨vwy4, hvwy4⟩ : ∃ v, v = Value.slice (some ⟨wy3.heap.size, 0, none⟩) 0 0 := ⟨_, rfl⟩
          rw [← hvwy4] at Hiwy4 ⊢
          clear hvwy4
          generalize wy3.alloc (.cells #[] 3) = wy4 at HBwy4 Hiwy4 Hswy4 ⊢
          refine hK.out _ _ trivial (fun hHeld => ?_)
          clear hK K
          try simp only [Act.put, List.foldl_cons, List.foldl_nil, List.setIfInBounds_toArray, List.set_cons_zero, List.set_cons_succ]
          refine wpAnyH_ready (rs := [14]) (by kernel_rfl) (by simp) (AllReadyH.cons (by simp only [List.getElem?_toArray, List.getElem?_cons_succ, List.getElem?_cons_zero]; rfl) (fun K hK => ?_) AllReadyH.nil)
          refine Kd.R_append_rows_step (Kd.int .i64) (w0 := wd) wd.heap.size rfl (.tmp 88) (.tmp 91) 29 3 (.int .i64 0) 8 rfl Try.underlying29 infoIntE rfl Nat.one_pos (by decide) vwy4 ([]) (ids.take k) Ai k (ci) (fun _ => True) (fun _ => False) rfl rfl Hiwy4.out (Kd.C_below HW3.out HBwy4.out) (fun _ _ h => h) (fun _ h => h.elim) (fun _ _ => trivial) HBwy4.out HBwy4.out.size HL3.out ?_
          intro vwy5 wy5 hR hB hg hat
          rw [List.nil_append] at hR
          have Hiwy5 := Lib.hid hR
          have HBwy5 := Lib.hid hB
          have Hswy5 := Lib.hid (rows_apart Hiwy4.out Hswy4.out (by intro q hq; cases hq with | head => decide | tail _ h => cases h) hg)
          clear hR hB hg hat
          refine hK.out _ _ trivial (fun hHeld => ?_)
          clear hK K
          try simp only [Act.put, List.foldl_cons, List.foldl_nil, List.setIfInBounds_toArray, List.set_cons_zero, List.set_cons_succ]
          refine wpAnyH_ready (rs := [19]) (by kernel_rfl) (by simp) (AllReadyH.cons (by simp only [List.getElem?_toArray, List.getElem?_cons_succ, List.getElem?_cons_zero]; rfl) (fun K hK => ?_) AllReadyH.nil)
          refine Kd.R_append_rows_step (Kd.int .i64) (w0 := wd) wd.heap.size rfl (.tmp 92) (.tmp 96) 29 3 (.int .i64 0) 8 rfl Try.underlying29 infoIntE rfl Nat.one_pos (by decide) vwy5 (ids.take k) (ids.drop k1) Aq mi (ci - k1) (fun _ => True) (fun _ => False) rfl rfl Hiwy5.out (Kd.C_below HW4.out HBwy5.out) (fun _ _ h => h) (fun _ h => h.elim) (fun _ _ => trivial) HBwy5.out HBwy5.out.size HL4.out ?_
          intro vwy6 wy6 hR hB hg hat
          have Hiwy6 := Lib.hid hR
          have HBwy6 := Lib.hid hB
          have Hswy6 := Lib.hid (rows_apart Hiwy5.out Hswy5.out (by intro q hq; cases hq with | head => decide | tail _ h => cases h) hg)
          clear hR hB hg hat
          refine hK.out _ _ trivial (fun hHeld => ?_)
          clear hK K
          try simp only [Act.put, List.foldl_cons, List.foldl_nil, List.setIfInBounds_toArray, List.set_cons_zero, List.set_cons_succ]
          refine Gd.take 20 (v := ?_) (by simp only [List.getElem?_toArray, List.getElem?_cons_succ, List.getElem?_cons_zero]; rfl) (by kernel_rfl) (by kernel_rfl) (by kernel_rfl) (fun _ _ _ _ h => h) (Or.inl ⟨by rfl, ?_⟩) trivial ?_
          rotate_left
          · ((intro w hSw; (try dsimp only at hSw); go_simp); (try with_reducible rfl))
          try simp only [Act.put, List.foldl_cons, List.foldl_nil, List.setIfInBounds_toArray, List.set_cons_zero, List.set_cons_succ]
          refine Gd.take 21 (v := ?_) (by simp only [List.getElem?_toArray, List.getElem?_cons_succ, List.getElem?_cons_zero]; rfl) (by kernel_rfl) (by kernel_rfl) (by kernel_rfl) (fun _ _ _ _ h => h) (Or.inl ⟨by rfl, ?_⟩) trivial ?_
          rotate_left
          · ((intro w hSw; (try dsimp only at hSw); go_simp); (try with_reducible rfl))
          try simp only [Act.put, List.foldl_cons, List.foldl_nil, List.setIfInBounds_toArray, List.set_cons_zero, List.set_cons_succ]
          refine wpAnyH_done (by kernel_rfl) ?_ _
          go_wp2_with fail
          go_meet
          case rel => exact ⟨_, _, rfl, rfl, Lib.hid (Kd.R_lower Hswy6.out HDv.out.size), Lib.hid (Kd.R_lower Hiwy6.out HDv.out.size), Lib.hid (HDv.out.trans (HBwy6.out.mono HDv.out.size))⟩
        · go_simp
          have HBwy3 := Lib.hid (HBwy2.out.alloc HBwy2.out.size (.cells #[] 3))
          have Hiwy3 := Lib.hid (R_empty (Kd.int .i64) 3 wy2 wd.heap.size HBwy2.out.size)
          have Hswy3 := Lib.hid (Kd.R_alloc Hswy2.out (.cells #[] 3))
          obtain ⟨vwy3, hvwy3⟩ : ∃ v, v = Value.slice (some ⟨wy2.heap.size, 0, none⟩) 0 0 := ⟨_, rfl⟩
          rw [← hvwy3] at Hiwy3 ⊢
          clear hvwy3
          generalize wy2.alloc (.cells #[] 3) = wy3 at HBwy3 Hiwy3 Hswy3 ⊢
          refine hK.out _ _ trivial (fun hHeld => ?_)
          clear hK K
          try simp only [Act.put, List.foldl_cons, List.foldl_nil, List.setIfInBounds_toArray, List.set_cons_zero, List.set_cons_succ]
          refine wpAnyH_ready (rs := [9]) (by kernel_rfl) (by simp) (AllReadyH.cons (by simp only [List.getElem?_toArray, List.getElem?_cons_succ, List.getElem?_cons_zero]; rfl) (fun K hK => ?_) AllReadyH.nil)
          refine Kd.R_append_rows_step Kd.string (w0 := wd) wd.heap.size rfl (.tmp 82) (.tmp 86) 28 9 (.string ⟨#[]⟩) 16 rfl Try.underlying28 infoStr rfl Nat.one_pos (by decide) vwy2 (keys.take k) (keys.drop k1) As m (ck - k1) (fun _ => True) (fun _ => False) rfl rfl Hswy3.out (Kd.C_below HW2.out HBwy3.out) (fun _ _ h => h) (fun _ h => h.elim) (fun _ _ => trivial) HBwy3.out HBwy3.out.size HL2.out ?_
          intro vwy4 wy4 hR hB hg hat
          have Hswy4 := Lib.hid hR
          have HBwy4 := Lib.hid hB
          have Hiwy4 := Lib.hid (rows_apart Hswy3.out Hiwy3.out (by intro q hq; cases hq with | head => decide | tail _ h => cases h) hg)
          clear hR hB hg hat
          refine hK.out _ _ trivial (fun hHeld => ?_)
          clear hK K
          try simp only [Act.put, List.foldl_cons, List.foldl_nil, List.setIfInBounds_toArray, List.set_cons_zero, List.set_cons_succ]
          refine wpAnyH_ready (rs := [14]) (by kernel_rfl) (by simp) (AllReadyH.cons (by simp only [List.getElem?_toArray, List.getElem?_cons_succ, List.getElem?_cons_zero]; rfl) (fun K hK => ?_) AllReadyH.nil)
          refine Kd.R_append_rows_step (Kd.int .i64) (w0 := wd) wd.heap.size rfl (.tmp 88) (.tmp 91) 29 3 (.int .i64 0) 8 rfl Try.underlying29 infoIntE rfl Nat.one_pos (by decide) vwy3 ([]) (ids.take k) Ai k (ci) (fun _ => True) (fun _ => False) rfl rfl Hiwy4.out (Kd.C_below HW3.out HBwy4.out) (fun _ _ h => h) (fun _ h => h.elim) (fun _ _ => trivial) HBwy4.out HBwy4.out.size HL3.out ?_
          intro vwy5 wy5 hR hB hg hat
          rw [List.nil_append] at hR
          have Hiwy5 := Lib.hid hR
          have HBwy5 := Lib.hid hB
          have Hswy5 := Lib.hid (rows_apart Hiwy4.out Hswy4.out (by intro q hq; cases hq with | head => decide | tail _ h => cases h) hg)
          clear hR hB hg hat
          refine hK.out _ _ trivial (fun hHeld => ?_)
          clear hK K
          try simp only [Act.put, List.foldl_cons, List.foldl_nil, List.setIfInBounds_toArray, List.set_cons_zero, List.set_cons_succ]
          refine wpAnyH_ready (rs := [19]) (by kernel_rfl) (by simp) (AllReadyH.cons (by simp only [List.getElem?_toArray, List.getElem?_cons_succ, List.getElem?_cons_zero]; rfl) (fun K hK => ?_) AllReadyH.nil)
          refine Kd.R_append_rows_step (Kd.int .i64) (w0 := wd) wd.heap.size rfl (.tmp 92) (.tmp 96) 29 3 (.int .i64 0) 8 rfl Try.underlying29 infoIntE rfl Nat.one_pos (by decide) vwy5 (ids.take k) (ids.drop k1) Aq mi (ci - k1) (fun _ => True) (fun _ => False) rfl rfl Hiwy5.out (Kd.C_below HW4.out HBwy5.out) (fun _ _ h => h) (fun _ h => h.elim) (fun _ _ => trivial) HBwy5.out HBwy5.out.size HL4.out ?_
          intro vwy6 wy6 hR hB hg hat
          have Hiwy6 := Lib.hid hR
          have HBwy6 := Lib.hid hB
          have Hswy6 := Lib.hid (rows_apart Hiwy5.out Hswy5.out (by intro q hq; cases hq with | head => decide | tail _ h => cases h) hg)
          clear hR hB hg hat
          refine hK.out _ _ trivial (fun hHeld => ?_)
          clear hK K
          try simp only [Act.put, List.foldl_cons, List.foldl_nil, List.setIfInBounds_toArray, List.set_cons_zero, List.set_cons_succ]
          refine Gd.take 20 (v := ?_) (by simp only [List.getElem?_toArray, List.getElem?_cons_succ, List.getElem?_cons_zero]; rfl) (by kernel_rfl) (by kernel_rfl) (by kernel_rfl) (fun _ _ _ _ h => h) (Or.inl ⟨by rfl, ?_⟩) trivial ?_
          rotate_left
          · ((intro w hSw; (try dsimp only at hSw); go_simp); (try with_reducible rfl))
          try simp only [Act.put, List.foldl_cons, List.foldl_nil, List.setIfInBounds_toArray, List.set_cons_zero, List.set_cons_succ]
          refine Gd.take 21 (v := ?_) (by simp only [List.getElem?_toArray, List.getElem?_cons_succ, List.getElem?_cons_zero]; rfl) (by kernel_rfl) (by kernel_rfl) (by kernel_rfl) (fun _ _ _ _ h => h) (Or.inl ⟨by rfl, ?_⟩) trivial ?_
          rotate_left
          · ((intro w hSw; (try dsimp only at hSw); go_simp); (try with_reducible rfl))
          try simp only [Act.put, List.foldl_cons, List.foldl_nil, List.setIfInBounds_toArray, List.set_cons_zero, List.set_cons_succ]
          refine wpAnyH_done (by kernel_rfl) ?_ _
          go_wp2_with fail
          go_meet
          case rel => exact ⟨_, _, rfl, rfl, Lib.hid (Kd.R_lower Hswy6.out HDv.out.size), Lib.hid (Kd.R_lower Hiwy6.out HDv.out.size), Lib.hid (HDv.out.trans (HBwy6.out.mono HDv.out.size))⟩
      · go_simp
        have HBwy2 := Lib.hid (HBwy1.out.alloc HBwy1.out.size (.cells #[] 3))
        have Hiwy2 := Lib.hid (R_empty (Kd.int .i64) 3 wy1 wd.heap.size HBwy1.out.size)
        have Hswy2 := Lib.hid (Kd.R_alloc Hswy1.out (.cells #[] 3))
        obtain ⟨vwy2, hvwy2⟩ : ∃ v, v = Value.slice (some ⟨wy1.heap.size, 0, none⟩) 0 0 := ⟨_, rfl⟩
        rw [← hvwy2] at Hiwy2 ⊢
        clear hvwy2
        generalize wy1.alloc (.cells #[] 3) = wy2 at HBwy2 Hiwy2 Hswy2 ⊢
        refine hK.out _ _ trivial (fun hHeld => ?_)
        clear hK K
        try simp only [Act.put, List.foldl_cons, List.foldl_nil, List.setIfInBounds_toArray, List.set_cons_zero, List.set_cons_succ]
        refine wpAnyH_ready (rs := [4]) (by kernel_rfl) (by simp) (AllReadyH.cons (by simp only [List.getElem?_toArray, List.getElem?_cons_succ, List.getElem?_cons_zero]; rfl) (fun K hK => ?_) AllReadyH.nil)
        refine Kd.R_append_rows_step Kd.string (w0 := wd) wd.heap.size rfl (.tmp 78) (.tmp 81) 28 9 (.string ⟨#[]⟩) 16 rfl Try.underlying28 infoStr rfl Nat.one_pos (by decide) vwy1 ([]) (keys.take k) Ak k (ck) (fun _ => True) (fun _ => False) rfl rfl Hswy2.out (Kd.C_below HW1.out HBwy2.out) (fun _ _ h => h) (fun _ h => h.elim) (fun _ _ => trivial) HBwy2.out HBwy2.out.size HL1.out ?_
        intro vwy3 wy3 hR hB hg hat
        rw [List.nil_append] at hR
        have Hswy3 := Lib.hid hR
        have HBwy3 := Lib.hid hB
        have Hiwy3 := Lib.hid (rows_apart Hswy2.out Hiwy2.out (by intro q hq; cases hq with | head => decide | tail _ h => cases h) hg)
        clear hR hB hg hat
        refine hK.out _ _ trivial (fun hHeld => ?_)
        clear hK K
        try simp only [Act.put, List.foldl_cons, List.foldl_nil, List.setIfInBounds_toArray, List.set_cons_zero, List.set_cons_succ]
        refine wpAnyH_ready (rs := [9]) (by kernel_rfl) (by simp) (AllReadyH.cons (by simp only [List.getElem?_toArray, List.getElem?_cons_succ, List.getElem?_cons_zero]; rfl) (fun K hK => ?_) AllReadyH.nil)
        refine Kd.R_append_rows_step Kd.string (w0 := wd) wd.heap.size rfl (.tmp 82) (.tmp 86) 28 9 (.string ⟨#[]⟩) 16 rfl Try.underlying28 infoStr rfl Nat.one_pos (by decide) vwy3 (keys.take k) (keys.drop k1) As m (ck - k1) (fun _ => True) (fun _ => False) rfl rfl Hswy3.out (Kd.C_below HW2.out HBwy3.out) (fun _ _ h => h) (fun _ h => h.elim) (fun _ _ => trivial) HBwy3.out HBwy3.out.size HL2.out ?_
        intro vwy4 wy4 hR hB hg hat
        have Hswy4 := Lib.hid hR
        have HBwy4 := Lib.hid hB
        have Hiwy4 := Lib.hid (rows_apart Hswy3.out Hiwy3.out (by intro q hq; cases hq with | head => decide | tail _ h => cases h) hg)
        clear hR hB hg hat
        refine hK.out _ _ trivial (fun hHeld => ?_)
        clear hK K
        try simp only [Act.put, List.foldl_cons, List.foldl_nil, List.setIfInBounds_toArray, List.set_cons_zero, List.set_cons_succ]
        refine wpAnyH_ready (rs := [14]) (by kernel_rfl) (by simp) (AllReadyH.cons (by simp only [List.getElem?_toArray, List.getElem?_cons_succ, List.getElem?_cons_zero]; rfl) (fun K hK => ?_) AllReadyH.nil)
        refine Kd.R_append_rows_step (Kd.int .i64) (w0 := wd) wd.heap.size rfl (.tmp 88) (.tmp 91) 29 3 (.int .i64 0) 8 rfl Try.underlying29 infoIntE rfl Nat.one_pos (by decide) vwy2 ([]) (ids.take k) Ai k (ci) (fun _ => True) (fun _ => False) rfl rfl Hiwy4.out (Kd.C_below HW3.out HBwy4.out) (fun _ _ h => h) (fun _ h => h.elim) (fun _ _ => trivial) HBwy4.out HBwy4.out.size HL3.out ?_
        intro vwy5 wy5 hR hB hg hat
        rw [List.nil_append] at hR
        have Hiwy5 := Lib.hid hR
        have HBwy5 := Lib.hid hB
        have Hswy5 := Lib.hid (rows_apart Hiwy4.out Hswy4.out (by intro q hq; cases hq with | head => decide | tail _ h => cases h) hg)
        clear hR hB hg hat
        refine hK.out _ _ trivial (fun hHeld => ?_)
        clear hK K
        try simp only [Act.put, List.foldl_cons, List.foldl_nil, List.setIfInBounds_toArray, List.set_cons_zero, List.set_cons_succ]
        refine wpAnyH_ready (rs := [19]) (by kernel_rfl) (by simp) (AllReadyH.cons (by simp only [List.getElem?_toArray, List.getElem?_cons_succ, List.getElem?_cons_zero]; rfl) (fun K hK => ?_) AllReadyH.nil)
        refine Kd.R_append_rows_step (Kd.int .i64) (w0 := wd) wd.heap.size rfl (.tmp 92) (.tmp 96) 29 3 (.int .i64 0) 8 rfl Try.underlying29 infoIntE rfl Nat.one_pos (by decide) vwy5 (ids.take k) (ids.drop k1) Aq mi (ci - k1) (fun _ => True) (fun _ => False) rfl rfl Hiwy5.out (Kd.C_below HW4.out HBwy5.out) (fun _ _ h => h) (fun _ h => h.elim) (fun _ _ => trivial) HBwy5.out HBwy5.out.size HL4.out ?_
        intro vwy6 wy6 hR hB hg hat
        have Hiwy6 := Lib.hid hR
        have HBwy6 := Lib.hid hB
        have Hswy6 := Lib.hid (rows_apart Hiwy5.out Hswy5.out (by intro q hq; cases hq with | head => decide | tail _ h => cases h) hg)
        clear hR hB hg hat
        refine hK.out _ _ trivial (fun hHeld => ?_)
        clear hK K
        try simp only [Act.put, List.foldl_cons, List.foldl_nil, List.setIfInBounds_toArray, List.set_cons_zero, List.set_cons_succ]
        refine Gd.take 20 (v := ?_) (by simp only [List.getElem?_toArray, List.getElem?_cons_succ, List.getElem?_cons_zero]; rfl) (by kernel_rfl) (by kernel_rfl) (by kernel_rfl) (fun _ _ _ _ h => h) (Or.inl ⟨by rfl, ?_⟩) trivial ?_
        rotate_left
        · ((intro w hSw; (try dsimp only at hSw); go_simp); (try with_reducible rfl))
        try simp only [Act.put, List.foldl_cons, List.foldl_nil, List.setIfInBounds_toArray, List.set_cons_zero, List.set_cons_succ]
        refine Gd.take 21 (v := ?_) (by simp only [List.getElem?_toArray, List.getElem?_cons_succ, List.getElem?_cons_zero]; rfl) (by kernel_rfl) (by kernel_rfl) (by kernel_rfl) (fun _ _ _ _ h => h) (Or.inl ⟨by rfl, ?_⟩) trivial ?_
        rotate_left
        · ((intro w hSw; (try dsimp only at hSw); go_simp); (try with_reducible rfl))
        try simp only [Act.put, List.foldl_cons, List.foldl_nil, List.setIfInBounds_toArray, List.set_cons_zero, List.set_cons_succ]
        refine wpAnyH_done (by kernel_rfl) ?_ _
        go_wp2_with fail
        go_meet
        case rel => exact ⟨_, _, rfl, rfl, Lib.hid (Kd.R_lower Hswy6.out HDv.out.size), Lib.hid (Kd.R_lower Hiwy6.out HDv.out.size), Lib.hid (HDv.out.trans (HBwy6.out.mono HDv.out.size))⟩
    · go_simp
      have HBwy1 := Lib.hid (HBwd.out.alloc HBwd.out.size (.cells #[] 3))
      have Hiwy1 := Lib.hid (R_empty (Kd.int .i64) 3 wd wd.heap.size HBwd.out.size)
      obtain ⟨vwy1, hvwy1⟩ : ∃ v, v = Value.slice (some ⟨wd.heap.size, 0, none⟩) 0 0 := ⟨_, rfl⟩
      rw [← hvwy1] at Hiwy1 ⊢
      clear hvwy1
      generalize wd.alloc (.cells #[] 3) = wy1 at HBwy1 Hiwy1 ⊢
      refine hK.out _ _ trivial (fun hHeld => ?_)
      clear hK K
      try simp only [Act.put, List.foldl_cons, List.foldl_nil, List.setIfInBounds_toArray, List.set_cons_zero, List.set_cons_succ]
      refine wpAnyH_ready (rs := [0]) (by kernel_rfl) (by simp) (AllReadyH.cons (by simp only [List.getElem?_toArray, List.getElem?_cons_succ, List.getElem?_cons_zero]; rfl) (fun K hK => ?_) AllReadyH.nil)
      go_simp
      have HBwy2 := Lib.hid (HBwy1.out.alloc HBwy1.out.size (.cells #[] 9))
      have Hswy2 := Lib.hid (R_empty Kd.string 9 wy1 wd.heap.size HBwy1.out.size)
      have Hiwy2 := Lib.hid (Kd.R_alloc Hiwy1.out (.cells #[] 9))
      obtain ⟨vwy2, hvwy2⟩ : ∃ v, v = Value.slice (some ⟨wy1.heap.size, 0, none⟩) 0 0 := ⟨_, rfl⟩
      rw [← hvwy2] at Hswy2 ⊢
      clear hvwy2
      generalize wy1.alloc (.cells #[] 9) = wy2 at HBwy2 Hswy2 Hiwy2 ⊢
      refine hK.out _ _ trivial (fun hHeld => ?_)
      clear hK K
      try simp only [Act.put, List.foldl_cons, List.foldl_nil, List.setIfInBounds_toArray, List.set_cons_zero, List.set_cons_succ]
      refine wpAnyH_ready (rs := [4]) (by kernel_rfl) (by simp) (AllReadyH.cons (by simp only [List.getElem?_toArray, List.getElem?_cons_succ, List.getElem?_cons_zero]; rfl) (fun K hK => ?_) AllReadyH.nil)
      refine Kd.R_append_rows_step Kd.string (w0 := wd) wd.heap.size rfl (.tmp 78) (.tmp 81) 28 9 (.string ⟨#[]⟩) 16 rfl Try.underlying28 infoStr rfl Nat.one_pos (by decide) vwy2 ([]) (keys.take k) Ak k (ck) (fun _ => True) (fun _ => False) rfl rfl Hswy2.out (Kd.C_below HW1.out HBwy2.out) (fun _ _ h => h) (fun _ h => h.elim) (fun _ _ => trivial) HBwy2.out HBwy2.out.size HL1.out ?_
      intro vwy3 wy3 hR hB hg hat
      rw [List.nil_append] at hR
      have Hswy3 := Lib.hid hR
      have HBwy3 := Lib.hid hB
      have Hiwy3 := Lib.hid (rows_apart Hswy2.out Hiwy2.out (by intro q hq; cases hq with | head => decide | tail _ h => cases h) hg)
      clear hR hB hg hat
      refine hK.out _ _ trivial (fun hHeld => ?_)
      clear hK K
      try simp only [Act.put, List.foldl_cons, List.foldl_nil, List.setIfInBounds_toArray, List.set_cons_zero, List.set_cons_succ]
      refine wpAnyH_ready (rs := [9]) (by kernel_rfl) (by simp) (AllReadyH.cons (by simp only [List.getElem?_toArray, List.getElem?_cons_succ, List.getElem?_cons_zero]; rfl) (fun K hK => ?_) AllReadyH.nil)
      refine Kd.R_append_rows_step Kd.string (w0 := wd) wd.heap.size rfl (.tmp 82) (.tmp 86) 28 9 (.string ⟨#[]⟩) 16 rfl Try.underlying28 infoStr rfl Nat.one_pos (by decide) vwy3 (keys.take k) (keys.drop k1) As m (ck - k1) (fun _ => True) (fun _ => False) rfl rfl Hswy3.out (Kd.C_below HW2.out HBwy3.out) (fun _ _ h => h) (fun _ h => h.elim) (fun _ _ => trivial) HBwy3.out HBwy3.out.size HL2.out ?_
      intro vwy4 wy4 hR hB hg hat
      have Hswy4 := Lib.hid hR
      have HBwy4 := Lib.hid hB
      have Hiwy4 := Lib.hid (rows_apart Hswy3.out Hiwy3.out (by intro q hq; cases hq with | head => decide | tail _ h => cases h) hg)
      clear hR hB hg hat
      refine hK.out _ _ trivial (fun hHeld => ?_)
      clear hK K
      try simp only [Act.put, List.foldl_cons, List.foldl_nil, List.setIfInBounds_toArray, List.set_cons_zero, List.set_cons_succ]
      refine wpAnyH_ready (rs := [14]) (by kernel_rfl) (by simp) (AllReadyH.cons (by simp only [List.getElem?_toArray, List.getElem?_cons_succ, List.getElem?_cons_zero]; rfl) (fun K hK => ?_) AllReadyH.nil)
      refine Kd.R_append_rows_step (Kd.int .i64) (w0 := wd) wd.heap.size rfl (.tmp 88) (.tmp 91) 29 3 (.int .i64 0) 8 rfl Try.underlying29 infoIntE rfl Nat.one_pos (by decide) vwy1 ([]) (ids.take k) Ai k (ci) (fun _ => True) (fun _ => False) rfl rfl Hiwy4.out (Kd.C_below HW3.out HBwy4.out) (fun _ _ h => h) (fun _ h => h.elim) (fun _ _ => trivial) HBwy4.out HBwy4.out.size HL3.out ?_
      intro vwy5 wy5 hR hB hg hat
      rw [List.nil_append] at hR
      have Hiwy5 := Lib.hid hR
      have HBwy5 := Lib.hid hB
      have Hswy5 := Lib.hid (rows_apart Hiwy4.out Hswy4.out (by intro q hq; cases hq with | head => decide | tail _ h => cases h) hg)
      clear hR hB hg hat
      refine hK.out _ _ trivial (fun hHeld => ?_)
      clear hK K
      try simp only [Act.put, List.foldl_cons, List.foldl_nil, List.setIfInBounds_toArray, List.set_cons_zero, List.set_cons_succ]
      refine wpAnyH_ready (rs := [19]) (by kernel_rfl) (by simp) (AllReadyH.cons (by simp only [List.getElem?_toArray, List.getElem?_cons_succ, List.getElem?_cons_zero]; rfl) (fun K hK => ?_) AllReadyH.nil)
      refine Kd.R_append_rows_step (Kd.int .i64) (w0 := wd) wd.heap.size rfl (.tmp 92) (.tmp 96) 29 3 (.int .i64 0) 8 rfl Try.underlying29 infoIntE rfl Nat.one_pos (by decide) vwy5 (ids.take k) (ids.drop k1) Aq mi (ci - k1) (fun _ => True) (fun _ => False) rfl rfl Hiwy5.out (Kd.C_below HW4.out HBwy5.out) (fun _ _ h => h) (fun _ h => h.elim) (fun _ _ => trivial) HBwy5.out HBwy5.out.size HL4.out ?_
      intro vwy6 wy6 hR hB hg hat
      have Hiwy6 := Lib.hid hR
      have HBwy6 := Lib.hid hB
      have Hswy6 := Lib.hid (rows_apart Hiwy5.out Hswy5.out (by intro q hq; cases hq with | head => decide | tail _ h => cases h) hg)
      clear hR hB hg hat
      refine hK.out _ _ trivial (fun hHeld => ?_)
      clear hK K
      try simp only [Act.put, List.foldl_cons, List.foldl_nil, List.setIfInBounds_toArray, List.set_cons_zero, List.set_cons_succ]
      refine Gd.take 20 (v := ?_) (by simp only [List.getElem?_toArray, List.getElem?_cons_succ, List.getElem?_cons_zero]; rfl) (by kernel_rfl) (by kernel_rfl) (by kernel_rfl) (fun _ _ _ _ h => h) (Or.inl ⟨by rfl, ?_⟩) trivial ?_
      rotate_left
      · ((intro w hSw; (try dsimp only at hSw); go_simp); (try with_reducible rfl))
      try simp only [Act.put, List.foldl_cons, List.foldl_nil, List.setIfInBounds_toArray, List.set_cons_zero, List.set_cons_succ]
      refine Gd.take 21 (v := ?_) (by simp only [List.getElem?_toArray, List.getElem?_cons_succ, List.getElem?_cons_zero]; rfl) (by kernel_rfl) (by kernel_rfl) (by kernel_rfl) (fun _ _ _ _ h => h) (Or.inl ⟨by rfl, ?_⟩) trivial ?_
      rotate_left
      · ((intro w hSw; (try dsimp only at hSw); go_simp); (try with_reducible rfl))
      try simp only [Act.put, List.foldl_cons, List.foldl_nil, List.setIfInBounds_toArray, List.set_cons_zero, List.set_cons_succ]
      refine wpAnyH_done (by kernel_rfl) ?_ _
      go_wp2_with fail
      go_meet
      case rel => exact ⟨_, _, rfl, rfl, Lib.hid (Kd.R_lower Hswy6.out HDv.out.size), Lib.hid (Kd.R_lower Hiwy6.out HDv.out.size), Lib.hid (HDv.out.trans (HBwy6.out.mono HDv.out.size))⟩
  case rest =>
    obtain ⟨vs, vi, rfl, rfl, HS6, HI6, HB6⟩ := hcut
    have HLx := Lib.hid (HLv.out.trans (HB6.out.mono HLv.out.size))
    obtain ⟨Ab, cb, rfl, hcb, hCb⟩ := Kd.R_reads HS6.out
    obtain ⟨Ac, cc, rfl, hcc, hCc⟩ := Kd.R_reads HI6.out
    have hlk : keys.take k ++ keys.drop k1 = lessK keys k := by rw [HK1.out]; rfl
    have hli : ids.take k ++ ids.drop k1 = lessI ids k := by rw [HK1.out]; rfl
    rw [hlk] at hCb ⊢
    rw [hli] at hCc ⊢
    have HCb := Lib.hid hCb
    have HCc := Lib.hid hCc
    have hki : k < ids.length := by rw [HIL.out]; exact hk
    have HKL := Lib.hid (keys_less HK.out (HO.out.1 (by trivial)) HIL.out hk (by omega) hsum)
    have HAV6 := Lib.hid (HAV.out.below HB6.out)
    have HCV6 := Lib.hid (Kd.C_below HCV.out HB6.out)
    clear hCb hCc hlk hli hcb hcc hcS1 hcS2 hcI1 hcI2 HS6 HI6
    go_wp2_with fail
    refine (lawTrie_any Ab Ac _ _ (lessK keys k) (lessI ids k) s wc HKL.out HCb.out HCc.out (HZ.out.1 (by trivial)) hss).mono ?_
    rintro e wb ⟨D1, d1, D2, d2, rfl, hD1, hD2, hwb⟩
    have HLb := Lib.hid (HLx.out.trans (hwb.mono HLx.out.size))
    have HAV7 := Lib.hid (HAV6.out.below hwb)
    have HCV7 := Lib.hid (Kd.C_below HCV6.out hwb)
    have HD1 := Lib.hid hD1
    clear hD1 hD2 hwb
    obtain ⟨b, hb⟩ : ∃ b, ansF (ksAll (lessK keys k) (lessI ids k)) s = b := ⟨_, rfl⟩
    rw [hb] at HD1 ⊢
    have HBE := Lib.hid hb
    clear hb
    have hx4 : wb.cell? ⟨pa, 4, none⟩ = some (.slice A1 a.2.2.1.length c1) := HAV7.out.c.2.2.2.2.1
    go_upto_region 9 with fail
    obtain ⟨we, hwe⟩ : ∃ we, we = wb.alloc (.cells #[.int .i64 b.1.1, .bool b.1.2, .int .i64 b.2.1.1, .bool b.2.1.2, .slice D1 b.2.2.1.length d1, .slice D2 b.2.2.2.length d2] tAns) := ⟨_, rfl⟩
    have HLe : Hid (Below w.heap.size w we) := Lib.hid (by rw [hwe]; exact HLb.out.alloc HLb.out.size _)
    have hbe : Below wb.heap.size wb we := by rw [hwe]; exact (Below.refl _ _).alloc (Nat.le_refl _) _
    have HBB : Hid (AnsAt wb.heap.size (.int .i64 b.1.1) (.bool b.1.2) (.int .i64 b.2.1.1) (.bool b.2.1.2) (.slice D1 b.2.2.1.length d1) (.slice D2 b.2.2.2.length d2) we) := Lib.hid (by rw [hwe]; exact heap_new wb _)
    have HA8 := Lib.hid (HAV7.out.below hbe)
    have HC8 := Lib.hid (Kd.C_below HCV7.out hbe)
    have HD8 := Lib.hid (Kd.C_below HD1.out hbe)
    rw [← hwe]
    clear hwe hbe hx4
    obtain ⟨pb, hpb⟩ : ∃ pb, pb = wb.heap.size := ⟨_, rfl⟩
    rw [← hpb] at HBB ⊢
    clear hpb
    have hx4 : we.cell? ⟨pa, 4, none⟩ = some (.slice A1 a.2.2.1.length c1) := HA8.out.c.2.2.2.2.1
    obtain ⟨H, hH⟩ : ∃ H, a.2.2.1 = H := ⟨_, rfl⟩
    rw [hH] at hx4 HC8
    have hHl := HC8.out.2.1
    have HRG : Hid (∀ h ∈ H, (0 : Int) < h.2 ∧ h.2 ≤ s.size) := Lib.hid (by rw [← hH, ← HA.out]; intro h hm; have := hits_range _ _ _ h hm; rw [bl_length] at this; simpa using this)
    have HJ : Hid (∀ j, j < H.length → j ≤ 2147483647) := Lib.hid (by rw [← hH, ← HA.out]; intro j hj; have := hitsF_length (ksAll keys ids) (bl s) 0; rw [bl_length] at this; exact Nat.le_of_lt (Nat.lt_of_lt_of_le hj (Nat.le_trans this hss)))
    have HHL := Lib.hid hH
    clear hH
    go_wp2_with fail
    obtain ⟨P, hP⟩ : ∃ P : Hit → Bool, P = fun h => decide ((bl s).take h.2.toNat ≠ bl (kAt keys k)) := ⟨_, rfl⟩
    have HP := Lib.hid hP
    clear hP
    go_loopw [108, 17, 15] (fun i _ v wr => ∃ j : Nat, j ≤ H.length ∧ i = .int .i64 j ∧ Hid (kHit.R tHit wr we.heap.size (fun _ => True) v ((H.take j).filter P)) ∧ Hid (Below we.heap.size we wr)) (fun i _ _ _ => H.length - (intOf i).toNat)
    case atStart => exact ⟨0, Nat.zero_le _, rfl, Lib.hid (Kd.R_nil _ _ _ _ _), Lib.hid (Below.refl _ _)⟩
    case round =>
      obtain ⟨j, hj, rfl, HRr, HBr⟩ := hrel
      have HLr := Lib.hid (HLe.out.trans (HBr.out.mono HLe.out.size))
      by_cases hlt : j < H.length
      · obtain ⟨hd, rfl, h0, h1⟩ := hits_at (Kd.C_below HC8.out HBr.out) j hlt
        obtain ⟨kd, rfl, hs⟩ := strs_at HKC.out k hk
        have hs' := (HLr.out.cell (World.block_lt_of_cell? w _ hs)).trans hs
        obtain ⟨x, hx⟩ : ∃ x, keys[k] = x := ⟨_, rfl⟩
        rw [hx] at hs'
        have HX : Hid (kAt keys k = x) := Lib.hid (by rw [kAt_eq hk]; exact hx)
        have HTK : Hid (H.take (j + 1) = H.take j ++ [H[j]]) := Lib.hid (List.take_succ_eq_append_getElem hlt)
        have hrg := HRG.out _ (List.getElem_mem hlt)
        generalize H[j] = hh at h0 h1 HTK hrg
        obtain ⟨id, ln⟩ := hh
        dsimp only at h0 h1 hrg
        obtain ⟨n, rfl⟩ : ∃ n : Nat, ln = n := ⟨ln.toNat, by omega⟩
        have hn0 : n ≤ s.size := by omega
        have p0 : (0 : Int) ≤ j := by omega
        have p1 : (j : Int) < (H.length : Int) := by omega
        have q0 : (0 : Int) ≤ k := by omega
        have q1 : (k : Int) < (keys.length : Int) := by omega
        have r1 : (n : Int) ≤ (s.size : Int) := by omega
        obtain ⟨Q, hQ⟩ : ∃ Q, ((s.extract 0 n).toList == x.toList) = Q := ⟨_, rfl⟩
        have HQ : Hid (P (id, (n : Int)) = !Q) := Lib.hid (by rw [HP.out, ← hQ, cut_eq, HX.out]; simp)
        clear hs hx hrg
        cases Q
        · go_upto_region 12 with fail
          obtain ⟨wx, hwx⟩ : ∃ wx, wx = wr.alloc (.cells #[.int .i64 id, .int .i64 n] tHit) := ⟨_, rfl⟩
          obtain ⟨vb, hvb⟩ : ∃ vb, vb = wr.heap.size := ⟨_, rfl⟩
          have hbx : wx.heap[vb]? = some (.cells #[.int .i64 id, .int .i64 n] tHit (0, 0)) := by rw [hwx, hvb]; exact heap_new _ _
          have HBx : Hid (Below we.heap.size we wx) := Lib.hid (by rw [hwx]; exact HBr.out.alloc HBr.out.size _)
          have HRx := Lib.hid (Kd.R_alloc HRr.out (.cells #[.int .i64 id, .int .i64 n] tHit))
          rw [← hwx] at HRx
          have hb0 : wx.cell? ⟨vb, 0, none⟩ = some (.int .i64 id) := by rw [cell_of_heap hbx]; rfl
          have hb1 : wx.cell? ⟨vb, 1, none⟩ = some (.int .i64 n) := by rw [cell_of_heap hbx]; rfl
          have hsx : wx.cell? (kd.add k) = some (.string x) := by rw [hwx]; exact (((Below.refl _ _).alloc (Nat.le_refl _) _).cell (World.block_lt_of_cell? wr _ hs')).trans hs'
          rw [← hwx, ← hvb]
          have HXB := Lib.hid hbx
          clear hwx hvb hbx hs'
          have hfl : ((H.take j).filter P).length ≤ j := Nat.le_trans (List.length_filter_le _ _) (by rw [List.length_take]; omega)
          have hj4 : j ≤ 2147483647 := HJ.out j hlt
          go_quiet (fail)
          go_wp2_with (at_builtin; refine kapp (w0 := we) kHit we.heap.size rfl _ _ 40 tHit (.agg #[.int .i64 0, .int .i64 0]) 16 rfl Try.underlying40 infoHit rfl (by decide) (by decide) _ ((H.take j).filter P) (id, (n : Int)) [.int .i64 id, .int .i64 n] (fun _ => True) (fun _ => False) wx.heap.size rfl rfl ?hg (hit_M _ _ _ _) (fun _ hk => hk.elim) (fun _ _ => trivial) (Kd.R_alloc (Kd.R_below HRx.out (pw_below_drewN (Below.refl _ _) _)) _) ((pw_below_drewN HBx.out _).alloc HBx.out.size _) (by have := HBx.out.size; simp; omega) (by omega) ?_)
          case hg =>
            intro jj u hjj
            rw [cell_of_heap (show ((wx.drewN nq).alloc (.cells #[.int .i64 id, .int .i64 n] tHit)).heap[wx.heap.size]? = _ from heap_new (wx.drewN nq) _)]
            simpa using hjj
          intro v1 w2 ho hb hg hat
          have HX1 := Lib.hid ho
          have HX2 := Lib.hid hb
          clear ho hb hg hat
          go_wp2_with fail
          exact ⟨⟨j + 1, by omega, by go_num, Lib.hid (by rw [HTK.out, List.filter_append, List.filter_cons, HQ.out]; simpa using HX1.out), HX2⟩, by simp [intOf]; omega⟩
        · go_upto_region 12 with fail
          obtain ⟨wx, hwx⟩ : ∃ wx, wx = wr.alloc (.cells #[.int .i64 id, .int .i64 n] tHit) := ⟨_, rfl⟩
          obtain ⟨vb, hvb⟩ : ∃ vb, vb = wr.heap.size := ⟨_, rfl⟩
          have hbx : wx.heap[vb]? = some (.cells #[.int .i64 id, .int .i64 n] tHit (0, 0)) := by rw [hwx, hvb]; exact heap_new _ _
          have HBx : Hid (Below we.heap.size we wx) := Lib.hid (by rw [hwx]; exact HBr.out.alloc HBr.out.size _)
          have HRx := Lib.hid (Kd.R_alloc HRr.out (.cells #[.int .i64 id, .int .i64 n] tHit))
          rw [← hwx] at HRx
          have hb0 : wx.cell? ⟨vb, 0, none⟩ = some (.int .i64 id) := by rw [cell_of_heap hbx]; rfl
          have hb1 : wx.cell? ⟨vb, 1, none⟩ = some (.int .i64 n) := by rw [cell_of_heap hbx]; rfl
          have hsx : wx.cell? (kd.add k) = some (.string x) := by rw [hwx]; exact (((Below.refl _ _).alloc (Nat.le_refl _) _).cell (World.block_lt_of_cell? wr _ hs')).trans hs'
          rw [← hwx, ← hvb]
          have HXB := Lib.hid hbx
          clear hwx hvb hbx hs'
          go_quiet (fail)
          go_wp2_with fail
          exact ⟨⟨j + 1, by omega, by go_num, Lib.hid (by rw [HTK.out, List.filter_append, List.filter_cons, HQ.out]; simpa using Kd.R_below HRx.out (pw_below_drewN (Below.refl _ _) _)), Lib.hid (pw_below_drewN HBx.out _)⟩, by simp [intOf]; omega⟩
      · obtain rfl : j = H.length := by omega
        have hr := HRr.out
        rw [List.take_length] at hr
        have HEQ : Hid (H.filter P = b.2.2.1) := Lib.hid (by rw [HP.out, ← HHL.out, ← HA.out, ← HBE.out]; exact (hits_less s (HO.out.1 (by trivial)) HIL.out hk).symm)
        obtain ⟨Aw, cw, rfl, -, hCw⟩ := Kd.R_reads hr
        rw [HEQ.out] at hCw ⊢
        have HCw := Lib.hid hCw
        have hx5 : wr.cell? ⟨pb, 4, none⟩ = some (.slice D1 b.2.2.1.length d1) := (HBB.out.below HBr.out).c.2.2.2.2.1
        clear hr hCw
        go_wp2_with fail
        refine (sameHit_eq D1 Aw d1 cw b.2.2.1 wr (Kd.C_below HD8.out HBr.out) HCw.out).mono ?_
        rintro e wg ⟨rfl, hwg⟩
        have HLg := Lib.hid (HLr.out.trans (hwg.mono HLr.out.size))
        clear hwg
        go_wp2_with fail
        refine (builds_any wg).mono ?_
        rintro e wf ⟨rfl, hwf⟩
        have HLf := Lib.hid (HLg.out.trans (hwf.mono HLg.out.size))
        clear hwf
        go_wp2_with fail
        go_ret
        exact ⟨rfl, HLf.out⟩
end Go.Proofs.Ytjifoimkjgepcaa.Da
