/-
  The walk of laws.FnTrieAlone.
-/
import Derived.Test.YtjifoimkjgepcaaEj
import Derived.Test.YtjifoimkjgepcaaGd
set_option linter.unusedVariables false
set_option linter.unusedSimpArgs false
namespace Go.Proofs.Ytjifoimkjgepcaa.Da
open Go.RowKit Go.ChangeShapes Go.Proofs.Ytjifoimkjgepcaa.K Go.Proofs.YtjifoimkjgepcaaW.PrintWords

set_option maxHeartbeats 4000000 in
set_option maxRecDepth 100000 in
theorem trieAlone_walk (Ak Ai An : Option Addr) (ck ci cn : Nat) (keys : List ByteArray) (ids : List Int) (inputs : List ByteArray) (w : World) (hkC : Kd.string.C w Ak keys.length keys) (hkc : keys.length ≤ ck) (hiC : (Kd.int .i64).C w Ai ids.length ids) (hnC : Kd.string.C w An inputs.length inputs) (hnc : inputs.length ≤ cn) :
    Calls Try.prog 4 #[.slice Ak keys.length ck, .slice Ai ids.length ci, .slice An inputs.length cn] w fun e w' => e = .returned (.bool true) ∧ Below w.heap.size w w' := by
  have HKC := Lib.hid hkC
  have HIC := Lib.hid hiC
  have HKc := Lib.hid hkc
  have HNC := Lib.hid hnC
  have HNc := Lib.hid hnc
  clear hkC hiC hkc hnC hnc
  go_enter Try.func4, Try.ntmps4
  go_wp2_with fail
  refine (zzFits3_any Ak ck keys w HKC.out).mono ?_
  rintro e w1 ⟨b0, rfl, hb, hw⟩
  have HFT0 := Lib.hid hb
  have HL1 := Lib.hid hw
  clear hb hw
  cases b0
  · go_wp2
    go_ret
    exact ⟨rfl, HL1.out⟩
  have HFT := Lib.hid (HFT0.out (by trivial))
  by_cases hbig1 : 2147483647 < (ids.length : Int)
  · go_wp2
    go_ret
    exact ⟨rfl, HL1.out⟩
  go_wp2_with fail
  refine (zzFits3_any An cn inputs w1 (Kd.C_below HNC.out HL1.out)).mono ?_
  rintro e w2 ⟨b2, rfl, hb, hw⟩
  have HFN0 := Lib.hid hb
  have HL2 := Lib.hid (HL1.out.trans (hw.mono HL1.out.size))
  clear hb hw
  cases b2
  · go_wp2
    go_ret
    exact ⟨rfl, HL2.out⟩
  have HFN := Lib.hid (HFN0.out (by trivial))
  have hkl := HFT.out.1
  go_wp2_with fail
  refine (few_two _ Ak An ck cn keys inputs w2 (Kd.C_below HKC.out HL2.out) HKc.out HFT.out (Kd.C_below HNC.out HL2.out) HNc.out HFN.out rfl).mono ?_
  rintro e w3 ⟨b3, rfl, hb, hw⟩
  have HS := Lib.hid hb
  have HL3 := Lib.hid (HL2.out.trans (hw.mono HL2.out.size))
  clear hb hw
  cases b3
  · go_wp2_with fail
    refine (builds_any w3).mono ?_
    rintro e wf ⟨rfl, hwf⟩
    have HLf := Lib.hid (HL3.out.trans (hwf.mono HL3.out.size))
    clear hwf
    go_wp2_with fail
    go_ret
    exact ⟨rfl, HLf.out⟩
  go_wp2_with fail
  refine (ordered_any Ak ck keys false w3 (Kd.C_below HKC.out HL3.out) HFT.out).mono ?_
  rintro e w4 ⟨b4, rfl, hb, hw⟩
  have HO := Lib.hid hb
  have HL4 := Lib.hid (HL3.out.trans (hw.mono HL3.out.size))
  clear hb hw
  cases b4
  · go_wp2_with fail
    refine (builds_any w4).mono ?_
    rintro e wf ⟨rfl, hwf⟩
    have HLf := Lib.hid (HL4.out.trans (hwf.mono HL4.out.size))
    clear hwf
    go_wp2_with fail
    go_ret
    exact ⟨rfl, HLf.out⟩
  go_wp2_with fail
  refine (goodIDs_any Ai ci ids keys.length w4 (Kd.C_below HIC.out HL4.out) hkl).mono ?_
  rintro e wq ⟨b5, rfl, hb, rfl⟩
  have HG := Lib.hid hb
  clear hb
  cases b5
  · go_wp2_with fail
    refine (builds_any wq).mono ?_
    rintro e wf ⟨rfl, hwf⟩
    have HLf := Lib.hid (HL4.out.trans (hwf.mono HL4.out.size))
    clear hwf
    go_wp2_with fail
    go_ret
    exact ⟨rfl, HLf.out⟩
  have HK := Lib.hid (keys_of (HO.out.1 (by trivial)) (HG.out (by trivial)).1 (HG.out (by trivial)).2 (by have := HS.out (by trivial); omega))
  go_wp2_with fail
  refine (clean_any An cn inputs wq (Kd.C_below HNC.out HL4.out) HFN.out).mono ?_
  rintro e wz ⟨b6, rfl, hb, rfl⟩
  have HZ := Lib.hid hb
  clear hb
  cases b6
  · go_wp2_with fail
    refine (builds_any wz).mono ?_
    rintro e wf ⟨rfl, hwf⟩
    have HLf := Lib.hid (HL4.out.trans (hwf.mono HL4.out.size))
    clear hwf
    go_wp2_with fail
    go_ret
    exact ⟨rfl, HLf.out⟩
  by_cases hc7 : 20 < inputs.length
  · go_wp2_with fail
    refine (builds_any wz).mono ?_
    rintro e wf ⟨rfl, hwf⟩
    have HLf := Lib.hid (HL4.out.trans (hwf.mono HL4.out.size))
    clear hwf
    go_wp2_with fail
    go_ret
    exact ⟨rfl, HLf.out⟩
  have HIN : Hid (Asked inputs) := Lib.hid ⟨HFN.out.1, fun s hs => ⟨HZ.out.1 (by trivial) s hs, HFN.out.2 s hs⟩⟩
  have hn20 : inputs.length ≤ 20 := by omega
  go_wp2_with fail
  refine (trie_any Ak Ai An ck ci cn keys ids inputs wz HK.out (Kd.C_below HKC.out HL4.out) (Kd.C_below HIC.out HL4.out) (Kd.C_below HNC.out HL4.out) HIN.out).mono ?_
  rintro e wt ⟨v, rfl, hr, hb⟩
  obtain ⟨A, c, rfl, hl, hC⟩ := Kd.R_reads hr
  have HLt := Lib.hid (HL4.out.trans (hb.mono HL4.out.size))
  have HCt := Lib.hid hC
  clear hr hb hl hC
  have hll : (List.map (ansF (ksAll keys ids)) inputs).length = inputs.length := List.length_map _
  rw [hll] at HCt ⊢
  go_wp2_with fail
  have HBT := Lib.hid (Below.refl wt.heap.size wt)
  go_loopw [71, 9, 74, 10, 11] (fun i _ _ _ _ wr => ∃ k : Nat, k ≤ inputs.length ∧ i = .int .i64 k ∧ Hid (Below wt.heap.size wt wr)) (fun i _ _ _ _ _ => inputs.length - (intOf i).toNat)
  case atStart => exact ⟨0, Nat.zero_le _, rfl, HBT⟩
  case round =>
    obtain ⟨k, hk, rfl, HBR⟩ := hrel
    have HLR := Lib.hid (HLt.out.trans (HBR.out.mono HLt.out.size))
    by_cases hlt : k < inputs.length
    · obtain ⟨nd, rfl, hs⟩ := strs_at HNC.out k hlt
      have hs' := (HLR.out.cell (World.block_lt_of_cell? w _ hs)).trans hs
      obtain ⟨s, hS⟩ : ∃ s, s = inputs[k] := ⟨_, rfl⟩
      rw [← hS] at hs' hs
      have HIN2 := Lib.hid hs
      have hask := HIN.out.2 s (by rw [hS]; exact List.getElem_mem hlt)
      have hss := hask.2
      have HSK := Lib.hid hask.1
      have HSI := Lib.hid hS
      clear hs hS hask
      go_wp2_with fail
      refine (lawTrie_any Ak Ai ck ci keys ids s wr HK.out (Kd.C_below HKC.out HLR.out) (Kd.C_below HIC.out HLR.out) HSK.out hss).mono ?_
      rintro e w6 ⟨A1, c1, A2, c2, rfl, hC1, hC2, hw6⟩
      have HL6 := Lib.hid (HLR.out.trans (hw6.mono HLR.out.size))
      have HB6 := Lib.hid hw6
      have HH1 := Lib.hid hC1
      have HH2 := Lib.hid hC2
      clear hC1 hC2 hw6 hs'
      obtain ⟨a, ha⟩ : ∃ a, ansF (ksAll keys ids) s = a := ⟨_, rfl⟩
      rw [ha] at HH1 HH2 ⊢
      have HA0 : Hid (ansF (ksAll keys ids) inputs[k] = a) := Lib.hid (by rw [← HSI.out]; exact ha)
      clear ha
      go_upto_region 12 with fail
      have HL7 := Lib.hid (HL6.out.alloc HL6.out.size (.cells #[.int .i64 a.1.1, .bool a.1.2, .int .i64 a.2.1.1, .bool a.2.1.2, .slice A1 a.2.2.1.length c1, .slice A2 a.2.2.2.length c2] tAns)).drew
      have hat : AnsAt w6.heap.size (.int .i64 a.1.1) (.bool a.1.2) (.int .i64 a.2.1.1) (.bool a.2.1.2) (.slice A1 a.2.2.1.length c1) (.slice A2 a.2.2.2.length c2) (w6.alloc (.cells #[.int .i64 a.1.1, .bool a.1.2, .int .i64 a.2.1.1, .bool a.2.1.2, .slice A1 a.2.2.1.length c1, .slice A2 a.2.2.2.length c2] tAns)).drew := heap_new w6 _
      have HD7 := Lib.hid (show Below w6.heap.size w6 (w6.alloc (.cells #[.int .i64 a.1.1, .bool a.1.2, .int .i64 a.2.1.1, .bool a.2.1.2, .slice A1 a.2.2.1.length c1, .slice A2 a.2.2.2.length c2] tAns)).drew from ((Below.refl _ _).alloc (Nat.le_refl _) _).drew)
      refine Gd.WT_start (by as_aux_lemma => kernel_rfl) (by as_aux_lemma => kernel_rfl) (by as_aux_lemma => kernel_rfl) (fun _ _ _ _ h => h) ?_
      generalize (w6.alloc (.cells #[.int .i64 a.1.1, .bool a.1.2, .int .i64 a.2.1.1, .bool a.2.1.2, .slice A1 a.2.2.1.length c1, .slice A2 a.2.2.2.length c2] tAns)).drew = wd at hat HL7 HD7 ⊢
      obtain ⟨pb, hpb⟩ : ∃ pb, pb = w6.heap.size := ⟨_, rfl⟩
      rw [← hpb] at hat ⊢
      clear hpb
      have HA := Lib.hid hat
      clear hat
      have HX1 := Lib.hid (Kd.C_below HH1.out HD7.out)
      have HX2 := Lib.hid (Kd.C_below HH2.out HD7.out)
      obtain ⟨bd, hbd, B1, d1, B2, d2, g0, g1, g2, g3, g4, g5, hG1, hG2⟩ := ans_at (Kd.C_below (Kd.C_below HCt.out HBR.out) (HB6.out.trans (HD7.out.mono HB6.out.size))) k (by rw [List.length_map]; exact hlt)
      subst hbd
      rw [List.getElem_map, HA0.out] at g0 g1 g2 g3 g4 g5 hG1 hG2
      have HG1 := Lib.hid hG1
      have HG2 := Lib.hid hG2
      clear hG1 hG2
      have hin := (HL7.out.cell (World.block_lt_of_cell? w _ HIN2.out)).trans HIN2.out
      have hin := Lib.hid hin
      have hG := Lib.hid (And.intro g0 (And.intro g1 (And.intro g2 (And.intro g3 (And.intro g4 g5)))))
      clear g0 g1 g2 g3 g4 g5
      refine ⟨(fun w' : World => (w'.cell? ⟨pb, 0, none⟩ = some (.int .i64 a.1.1) ∧ w'.cell? ⟨pb, 1, none⟩ = some (.bool a.1.2) ∧ w'.cell? ⟨pb, 2, none⟩ = some (.int .i64 a.2.1.1) ∧ w'.cell? ⟨pb, 3, none⟩ = some (.bool a.2.1.2) ∧ w'.cell? ⟨pb, 4, none⟩ = some (.slice A1 a.2.2.1.length c1) ∧ w'.cell? ⟨pb, 5, none⟩ = some (.slice A2 a.2.2.2.length c2)) ∧ (w'.cell? (bd.add (k * 6)) = some (.int .i64 a.1.1) ∧ w'.cell? ⟨(bd.add (k * 6)).block, (bd.add (k * 6)).off + 1, none⟩ = some (.bool a.1.2) ∧ w'.cell? ⟨(bd.add (k * 6)).block, (bd.add (k * 6)).off + 2, none⟩ = some (.int .i64 a.2.1.1) ∧ w'.cell? ⟨(bd.add (k * 6)).block, (bd.add (k * 6)).off + 3, none⟩ = some (.bool a.2.1.2) ∧ w'.cell? ⟨(bd.add (k * 6)).block, (bd.add (k * 6)).off + 4, none⟩ = some (.slice B1 a.2.2.1.length d1) ∧ w'.cell? ⟨(bd.add (k * 6)).block, (bd.add (k * 6)).off + 5, none⟩ = some (.slice B2 a.2.2.2.length d2)) ∧ w'.cell? (nd.add k) = some (.string s) ∧ Below w.heap.size w w'), ⟨HA.out.c, hG.out, hin.out, HL7.out⟩, fun hHeld => ?_⟩
      refine Gd.WT_take 0 (v := ?_) (by simp only [List.getElem?_toArray, List.getElem?_cons_succ, List.getElem?_cons_zero]; rfl) (Or.inl ⟨by rfl, ?_⟩) (by assumption) ?_
      rotate_left
      · ((intro w hSw; (try dsimp only at hSw); go_simp); (try with_reducible rfl))
      try simp only [Act.put, List.foldl_cons, List.foldl_nil, List.setIfInBounds_toArray, List.set_cons_zero, List.set_cons_succ]
      refine Gd.WT_take 1 (v := ?_) (by simp only [List.getElem?_toArray, List.getElem?_cons_succ, List.getElem?_cons_zero]; rfl) (Or.inl ⟨by rfl, ?_⟩) (by assumption) ?_
      rotate_left
      · ((intro w hSw; (try dsimp only at hSw); go_simp); (try with_reducible rfl))
      try simp only [Act.put, List.foldl_cons, List.foldl_nil, List.setIfInBounds_toArray, List.set_cons_zero, List.set_cons_succ]
      refine Gd.WT_take 2 (v := ?_) (by simp only [List.getElem?_toArray, List.getElem?_cons_succ, List.getElem?_cons_zero]; rfl) (Or.inl ⟨by rfl, ?_⟩) (by assumption) ?_
      rotate_left
      · ((intro w hSw; (try dsimp only at hSw); go_simp); (try with_reducible rfl))
      try simp only [Act.put, List.foldl_cons, List.foldl_nil, List.setIfInBounds_toArray, List.set_cons_zero, List.set_cons_succ]
      refine Gd.WT_take 3 (v := ?_) (by simp only [List.getElem?_toArray, List.getElem?_cons_succ, List.getElem?_cons_zero]; rfl) (Or.inl ⟨by rfl, ?_⟩) (by assumption) ?_
      rotate_left
      · ((intro w hSw; (try dsimp only at hSw); go_simp); (try with_reducible rfl))
      try simp only [Act.put, List.foldl_cons, List.foldl_nil, List.setIfInBounds_toArray, List.set_cons_zero, List.set_cons_succ]
      refine Gd.WT_take 4 (v := ?_) (by simp only [List.getElem?_toArray, List.getElem?_cons_succ, List.getElem?_cons_zero]; rfl) (Or.inl ⟨by rfl, ?_⟩) (by assumption) ?_
      rotate_left
      · ((intro w hSw; (try dsimp only at hSw); go_simp); (try with_reducible rfl))
      try simp only [Act.put, List.foldl_cons, List.foldl_nil, List.setIfInBounds_toArray, List.set_cons_zero, List.set_cons_succ]
      refine Gd.WT_take 5 (v := ?_) (by simp only [List.getElem?_toArray, List.getElem?_cons_succ, List.getElem?_cons_zero]; rfl) (Or.inl ⟨by rfl, ?_⟩) (by assumption) ?_
      rotate_left
      · ((intro w hSw; (try dsimp only at hSw); go_simp); (try with_reducible rfl))
      try simp only [Act.put, List.foldl_cons, List.foldl_nil, List.setIfInBounds_toArray, List.set_cons_zero, List.set_cons_succ]
      refine Gd.WT_take 6 (v := ?_) (by simp only [List.getElem?_toArray, List.getElem?_cons_succ, List.getElem?_cons_zero]; rfl) (Or.inl ⟨by rfl, ?_⟩) (by assumption) ?_
      rotate_left
      · ((intro w hSw; (try dsimp only at hSw); go_simp); (try with_reducible rfl))
      try simp only [Act.put, List.foldl_cons, List.foldl_nil, List.setIfInBounds_toArray, List.set_cons_zero, List.set_cons_succ]
      refine Gd.WT_take 7 (v := ?_) (by simp only [List.getElem?_toArray, List.getElem?_cons_succ, List.getElem?_cons_zero]; rfl) (Or.inl ⟨by rfl, ?_⟩) (by assumption) ?_
      rotate_left
      · ((intro w hSw; (try dsimp only at hSw); go_simp); (try with_reducible rfl))
      try simp only [Act.put, List.foldl_cons, List.foldl_nil, List.setIfInBounds_toArray, List.set_cons_zero, List.set_cons_succ]
      refine Gd.WT_take 8 (v := ?_) (by simp only [List.getElem?_toArray, List.getElem?_cons_succ, List.getElem?_cons_zero]; rfl) (Or.inl ⟨by rfl, ?_⟩) (by assumption) ?_
      rotate_left
      · ((intro w hSw; (try dsimp only at hSw); go_simp); (try with_reducible rfl))
      try simp only [Act.put, List.foldl_cons, List.foldl_nil, List.setIfInBounds_toArray, List.set_cons_zero, List.set_cons_succ]
      refine Gd.WT_take 9 (v := ?_) (by simp only [List.getElem?_toArray, List.getElem?_cons_succ, List.getElem?_cons_zero]; rfl) (Or.inl ⟨by rfl, ?_⟩) (by assumption) ?_
      rotate_left
      · ((intro w hSw; (try dsimp only at hSw); go_simp); (try with_reducible rfl))
      try simp only [Act.put, List.foldl_cons, List.foldl_nil, List.setIfInBounds_toArray, List.set_cons_zero, List.set_cons_succ]
      refine Gd.WT_take 10 (v := ?_) (by simp only [List.getElem?_toArray, List.getElem?_cons_succ, List.getElem?_cons_zero]; rfl) (Or.inl ⟨by rfl, ?_⟩) (by assumption) ?_
      rotate_left
      · ((intro w hSw; (try dsimp only at hSw); go_simp); (try with_reducible rfl))
      try simp only [Act.put, List.foldl_cons, List.foldl_nil, List.setIfInBounds_toArray, List.set_cons_zero, List.set_cons_succ]
      refine Gd.WT_take 11 (v := ?_) (by simp only [List.getElem?_toArray, List.getElem?_cons_succ, List.getElem?_cons_zero]; rfl) (Or.inl ⟨by rfl, ?_⟩) (by assumption) ?_
      rotate_left
      · ((intro w hSw; (try dsimp only at hSw); go_simp); (try with_reducible rfl))
      try simp only [Act.put, List.foldl_cons, List.foldl_nil, List.setIfInBounds_toArray, List.set_cons_zero, List.set_cons_succ]
      refine Gd.WT_take 12 (v := ?_) (by simp only [List.getElem?_toArray, List.getElem?_cons_succ, List.getElem?_cons_zero]; rfl) (Or.inl ⟨by rfl, ?_⟩) (by assumption) ?_
      rotate_left
      · ((intro w hSw; (try dsimp only at hSw); go_simp); (try with_reducible rfl))
      try simp only [Act.put, List.foldl_cons, List.foldl_nil, List.setIfInBounds_toArray, List.set_cons_zero, List.set_cons_succ]
      refine Gd.WT_call 13 (by simp only [List.getElem?_toArray, List.getElem?_cons_succ, List.getElem?_cons_zero]; rfl) (by as_aux_lemma => kernel_rfl) (fun K hK => ?_)
      go_simp
      (go_at_call 27; with_reducible refine (half_any Ak ck keys s wd (Kd.C_below HKC.out HL7.out) HFT.out hss).mono ?_)
      rintro e w8 ⟨bh, rfl, -, rfl⟩
      go_simp
      refine hK.out _ _ ?_ (fun hHeld => ?_)
      · exact ⟨HA.out.c, hG.out, hin.out, HL7.out⟩
      clear hK K
      try simp only [Act.put, List.foldl_cons, List.foldl_nil, List.setIfInBounds_toArray, List.set_cons_zero, List.set_cons_succ]
      refine Gd.WT_call 14 (by simp only [List.getElem?_toArray, List.getElem?_cons_succ, List.getElem?_cons_zero]; rfl) (by as_aux_lemma => kernel_rfl) (fun K hK => ?_)
      go_simp
      have hst := sameTrie_eq a A1 A2 B1 B2 c1 c2 d1 d2 bh wd HX1.out HX2.out HG1.out HG2.out
      unfold ansV at hst
      (go_at_call 26; with_reducible refine hst.mono ?_)
      clear hst
      rintro e w9 ⟨rfl, hw9⟩
      have HL9 := Lib.hid (HL7.out.trans (hw9.mono HL7.out.size))
      have HA9 := Lib.hid (HA.out.below hw9)
      have K9 : ∀ (q : Addr) (v : Value), wd.cell? q = some v → w9.cell? q = some v := fun q v h => (hw9.cell (World.block_lt_of_cell? wd _ h)).trans h
      have HD9 := Lib.hid (HBR.out.trans ((HB6.out.trans ((HD7.out.trans (hw9.mono HD7.out.size)).mono HB6.out.size)).mono HBR.out.size))
      clear hw9
      go_simp
      refine hK.out _ _ ?_ (fun hHeld => ?_)
      · exact ⟨HA9.out.c, ⟨K9 _ _ hG.out.1, K9 _ _ hG.out.2.1, K9 _ _ hG.out.2.2.1, K9 _ _ hG.out.2.2.2.1, K9 _ _ hG.out.2.2.2.2.1, K9 _ _ hG.out.2.2.2.2.2⟩, K9 _ _ hin.out, HL9.out⟩
      clear hK K
      try simp only [Act.put, List.foldl_cons, List.foldl_nil, List.setIfInBounds_toArray, List.set_cons_zero, List.set_cons_succ]
      refine Gd.WT_take 15 (v := ?_) (by simp only [List.getElem?_toArray, List.getElem?_cons_succ, List.getElem?_cons_zero]; rfl) (Or.inl ⟨by rfl, ?_⟩) (by assumption) ?_
      rotate_left
      · ((intro w hSw; (try dsimp only at hSw); go_simp); (try with_reducible rfl))
      try simp only [Act.put, List.foldl_cons, List.foldl_nil, List.setIfInBounds_toArray, List.set_cons_zero, List.set_cons_succ]
      refine Gd.WT_passes (by assumption) 16 [some false] [(some 100, .bool false)] 17 _ (by kernel_rfl) (by kernel_rfl) rfl ?_
      simp only [Act.put, List.foldl_cons, List.foldl_nil, List.setIfInBounds_toArray, List.set_cons_zero, List.set_cons_succ]
      refine Gd.WT_end (by exact Nat.le_refl 17) ?_
      go_wp2_with fail
      refine ⟨⟨k + 1, by omega, by go_num, HD9⟩, by simp [intOf]; omega⟩
    · go_wp2_with fail
      refine (builds_any wr).mono ?_
      rintro e wf ⟨rfl, hwf⟩
      have HLf := Lib.hid (HLR.out.trans (hwf.mono HLR.out.size))
      clear hwf
      go_wp2_with fail
      go_ret
      exact ⟨rfl, HLf.out⟩
end Go.Proofs.Ytjifoimkjgepcaa.Da
