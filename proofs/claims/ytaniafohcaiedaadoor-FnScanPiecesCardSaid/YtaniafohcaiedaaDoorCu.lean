/-
  The walk of laws.FnSentencesCut.
-/
import Derived.Test.YtaniafohcaiedaaDoorSl
import Derived.Test.YtaniafohcaiedaaDoorSg
import Derived.MakeChecks
set_option linter.unusedVariables false
set_option linter.unusedSimpArgs false
namespace Go.Proofs.YtaniafohcaiedaaDoor.Sn
open Go.RowKit Go.Proofs.YtaniafohcaiedaaDoor.K Go.Proofs.YtaniafohcaiedaaDoorW.PrintWords

theorem cks_end {m : Nat} {rs : List Int} (h : rs = [] ∨ m = 0) : cks m rs = [] := by rw [cks, dif_pos h]
theorem cks_step {m : Nat} {rs : List Int} (h : ¬ (rs = [] ∨ m = 0)) : cks m rs = rs.take m :: cks m (rs.drop m) := by rw [cks, dif_neg h]
theorem cks_tx (m : Nat) : ∀ (k : Nat) (ns : List Nat), ns.length ≤ k → (cks m (ns.map fun n : Nat => (n : Int))).map runesBytes = (cks m (ns.map fun n : Nat => (n : Int))).map fun rs => ⟨(bytesL rs).toArray⟩
  | 0, ns, h => by
    rw [List.length_eq_zero_iff.1 (Nat.le_zero.1 h), List.map_nil, cks_end (.inl rfl)]
    rfl
  | k + 1, ns, h => by
    by_cases h0 : ns.map (fun n : Nat => (n : Int)) = [] ∨ m = 0
    · rw [cks_end h0]; rfl
    · have hn : ns ≠ [] := fun e => h0 (.inl (by rw [e]; rfl))
      have hp := List.length_pos_iff.2 hn
      rw [cks_step h0, List.map_cons, List.map_cons, ← List.map_take, ← List.map_drop, cks_tx m k (ns.drop m) (by rw [List.length_drop]; have : m ≠ 0 := fun e => h0 (.inr e); omega), runesBytes_eq]
theorem sents_texts (s : ByteArray) (m : Nat) (hm : 0 < m) (hg : GoodL s.data.toList) : sents [] [] (m : Nat) (decT s.data.toList) s 0 = (cks m (rnL s.data.toList)).map runesBytes := by
  have h := sents_cut s m hm s.size 0 (by omega) (Nat.zero_le _) hg
  rw [List.drop_zero] at h
  obtain ⟨ns, hn⟩ := rnL_nats _ s.data.toList (Nat.le_refl _)
  rw [h, hn, cks_tx m _ ns (Nat.le_refl _)]
theorem rnL_len : ∀ (k : Nat) (l : List UInt8), l.length ≤ k → (rnL l).length ≤ l.length
  | 0, l, h => by rw [List.length_eq_zero_iff.1 (Nat.le_zero.1 h), rnL_nil]; exact Nat.le_refl _
  | k + 1, l, h => by
    by_cases h0 : l = []
    · rw [h0, rnL_nil]; exact Nat.le_refl _
    · have hw := Go.Lib.decodeL_width l
      have hp := List.length_pos_iff.2 h0
      have := rnL_len k (l.drop (Go.Lib.decodeL l).2) (by rw [List.length_drop]; omega)
      rw [rnL_cons h0, List.length_cons]
      rw [List.length_drop] at this
      omega

set_option maxHeartbeats 4000000 in
set_option maxRecDepth 5000 in
theorem cut_walk (s : ByteArray) (most : Int) (hs0 : s.size ≤ 9223372036854775807) (w : World) (hT : Lib.Utf8Tabs 1 2 w) :
    Calls Tryd.prog 7 #[.string s, .int .i64 most] w fun e w' => e = .returned (.bool true) ∧ Below w.heap.size w w' := by
  have HT := Lib.hid hT
  have HP := Lib.hid parts_any
  clear hT
  go_enter Tryd.func7, Tryd.ntmps7
  by_cases hs : (2147483647 : Int) < s.size
  · go_wp2_with fail
    go_ret
    exact ⟨by simp, Below.refl _ _⟩
  go_wp2_with fail
  refine (readable_any s hs0 w).mono ?_
  rintro e w1 ⟨b, rfl, hb, hb1⟩
  have HB := Lib.hid hb
  have HL1 := Lib.hid hb1
  have hz1 := hb1.size
  clear hb hb1
  have HPA := Lib.hid (show Calls Tryd.prog 25 #[] w1 (fun e w' => e = .returned (.bool true) ∧ Below w.heap.size w w') from (HP.out w1).mono fun e w' h => ⟨h.1, HL1.out.trans (h.2.mono hz1)⟩)
  cases b
  · go_wp2_with fail
    refine HPA.out.mono ?_
    rintro e w3 ⟨rfl, hb3⟩
    have HW3 := Lib.hid hb3
    clear hb3
    go_wp2_with fail
    go_ret
    exact ⟨by simp, HW3.out⟩
  by_cases h1 : most < 1
  · go_wp2_with fail
    refine HPA.out.mono ?_
    rintro e w3 ⟨rfl, hb3⟩
    have HW3 := Lib.hid hb3
    clear hb3
    go_wp2_with fail
    go_ret
    exact ⟨by simp, HW3.out⟩
  by_cases h2 : 1000 < most
  · go_wp2_with fail
    refine HPA.out.mono ?_
    rintro e w3 ⟨rfl, hb3⟩
    have HW3 := Lib.hid hb3
    clear hb3
    go_wp2_with fail
    go_ret
    exact ⟨by simp, HW3.out⟩
  clear HPA
  obtain ⟨hgood, h300⟩ := HB.out rfl
  obtain ⟨m, rfl⟩ : ∃ m : Nat, most = (m : Nat) := ⟨most.toNat, by omega⟩
  have hSE := sents_texts s m (by omega) hgood
  have hRl := rnL_len _ s.data.toList (Nat.le_refl _)
  have hcv : ∀ W, _ := fun W => run_runes_of_string (P := Tryd.prog) W 9 46 21 s Tryd.underlying9 Tryd.underlying46 Tryd.underlying21
  rw [runes_of] at hcv
  obtain ⟨R, hR⟩ : ∃ R, rnL s.data.toList = R := ⟨_, rfl⟩
  have hz : s.data.toList.length = s.size := data_length s
  rw [hR] at hSE hRl hcv
  rw [hz] at hRl
  obtain ⟨S, hS⟩ : ∃ S, (cks m R).map runesBytes = S := ⟨_, rfl⟩
  rw [hS] at hSE
  have HSE := Lib.hid hSE
  have HS := Lib.hid hS
  obtain ⟨L, hL⟩ : ∃ L, R.length = L := ⟨_, rfl⟩
  have hcv := hcv w1 (by simp; omega)
  have hsz : ((R.map (Value.int .i32)).toArray).size = L := by simp [hL]
  rw [hsz] at hcv
  obtain ⟨C, hC⟩ : ∃ C, grownCap w1 L 0 21 = C := ⟨_, rfl⟩
  have hCg : L ≤ C := hC ▸ grownCap_ge _ _ _ _
  have hCm : C ≤ 9223372036854775807 := by have := grownCap_le_maxLen w1 L 0 21 (by simp only [maxLen]; omega); rw [hC] at this; simpa [maxLen] using this
  rw [hC] at hcv
  clear hS hSE hgood hR hC hsz hz HB
  go_wp2_with fail
  have hcells : ∀ j, j < L → ((w1.alloc (.cells ((R.map (Value.int .i32)).toArray ++ Array.replicate (C - L) (Value.int .i32 0)) 21)).drew).cell? ⟨w1.heap.size, j, none⟩ = some (.int .i32 (R.getD j 0)) := by
    intro j hj
    have hjR : j < R.length := by omega
    rw [World.cell?_drew, cell_of_heap (heap_new w1 _), Array.getElem?_append_left (by simpa using hjR)]
    simp [List.getD, hjR]
  have hbw : Below w.heap.size w ((w1.alloc (.cells ((R.map (Value.int .i32)).toArray ++ Array.replicate (C - L) (Value.int .i32 0)) 21)).drew) := (HL1.out.alloc hz1 _).drew
  generalize (w1.alloc (.cells ((R.map (Value.int .i32)).toArray ++ Array.replicate (C - L) (Value.int .i32 0)) 21)).drew = w0 at hcells hbw ⊢
  obtain ⟨g, hg⟩ : ∃ g, w1.heap.size = g := ⟨_, rfl⟩
  rw [hg] at hcells ⊢
  have HC := Lib.hid hcells
  have HBW := Lib.hid hbw
  have hwz := hbw.size
  have HLR := Lib.hid hL
  have hL3 : L ≤ 300 := by omega
  clear hcells hbw hg HL1 hz1 hcv hL
  go_loopw [5, 6] (fun v b wr => ∃ (k : Nat) (Ab : Option Addr) (Cb : Nat) (acc : List ByteArray), b = .slice Ab (L - k) Cb ∧ k ≤ L ∧ acc.length ≤ k ∧ (k < L → Ab = some ⟨g, k, none⟩ ∧ Cb = C - k) ∧ Hid (S = acc ++ (cks m (R.drop k)).map runesBytes) ∧ Hid (Kd.string.R 9 wr w0.heap.size (fun _ => True) v acc) ∧ Hid (Below w0.heap.size w0 wr)) (fun _ b _ => sliceLen b)
  case atStart => exact ⟨0, _, _, [], rfl, Nat.zero_le _, Nat.le_refl _, fun _ => ⟨rfl, rfl⟩, Lib.hid (by rw [← HS.out]; rfl), Lib.hid (Kd.R_nil _ _ _ _ _), Lib.hid (Below.refl _ _)⟩
  case round =>
    clear HS
    obtain ⟨k, Ab, Cb, acc, rfl, hk, hacc, hab, HS, hR, hbel⟩ := hrel
    have hzr := hbel.out.size
    by_cases hlt : k < L
    · obtain ⟨rfl, rfl⟩ := hab hlt
      obtain ⟨n, hn⟩ : ∃ n, min m (L - k) = n := ⟨_, rfl⟩
      have hn0 : 0 < n := by omega
      have hnL : n ≤ L - k := by omega
      have hmin : min (m : Int) ((L - k : Nat) : Int) = (n : Int) := by omega
      have hbyt : (R.drop k).take m = (R.drop k).take n := by
        by_cases hmn : m ≤ L - k
        · rw [show n = m by omega]
        · rw [List.take_of_length_le (by rw [List.length_drop, HLR.out]; omega), List.take_of_length_le (by rw [List.length_drop, HLR.out]; omega)]
      have hdr : cks m ((R.drop k).drop m) = cks m (R.drop (k + n)) := by
        by_cases hmn : m ≤ L - k
        · rw [show n = m by omega, List.drop_drop]
        · rw [List.drop_drop, List.drop_of_length_le (by rw [HLR.out]; omega), List.drop_of_length_le (by rw [HLR.out]; omega)]
      have hcv := run_convert_runes (P := Tryd.prog) wr 46 9 21 ⟨g, k, none⟩ n (C - k) (R.drop k) (by rw [List.length_drop, HLR.out]; exact hnL) Tryd.underlying46 Tryd.underlying21 Tryd.underlying9 (by
        intro j hj
        rw [List.length_drop, HLR.out] at hj
        have hc := HC.out (k + j) (by omega)
        rw [add_plain', hbel.out.cell (World.block_lt_of_cell? _ _ hc), hc]
        simp [List.getD, List.getElem?_drop])
      have hnn : ¬ (R.drop k = [] ∨ m = 0) := by
        rintro (e | e)
        · have h8 := congrArg List.length e
          rw [List.length_drop, HLR.out] at h8
          simp at h8
          omega
        · omega
      have HSE := Lib.hid (show (cks m (R.drop k)).map runesBytes = [runesBytes ((R.drop k).take n)] ++ (cks m (R.drop (k + n))).map runesBytes from by
        rw [cks_step hnn, hbyt, hdr]; rfl)
      obtain ⟨t, ht⟩ : ∃ t, runesBytes ((R.drop k).take n) = t := ⟨_, rfl⟩
      rw [ht] at hcv HSE
      have HSF := Lib.hid (show S = (acc ++ [t]) ++ (cks m (R.drop (k + n))).map runesBytes by rw [HS.out, HSE.out, List.append_assoc])
      clear HSE HS hbyt hdr ht hn hnn
      go_wp2_with (at_builtin; refine kapp (w0 := w0) Kd.string w0.heap.size rfl _ _ 45 9 (.string ⟨#[]⟩) 16 rfl Tryd.underlying45 (by kernel_rfl) rfl (by decide) (by decide) _ acc t [.string t] (fun _ => True) (fun _ => False) _ rfl rfl (by intro j u hj; rw [cell_of_heap (heap_new _ _)]; simpa using hj) rfl (fun _ h => h.elim) (fun _ _ => trivial) (Kd.R_alloc hR.out _) (hbel.out.alloc hzr _) (by simp; omega) ?hl ?_)
      case hl => omega
      intro v4 w4 hR4 hB4 hg4 hat4
      have HR4 := Lib.hid hR4
      have HB4 := Lib.hid hB4
      clear hg4 hat4 hR4 hB4 hcv
      have hal : (acc ++ [t]).length ≤ k + n := by rw [List.length_append, List.length_singleton]; omega
      generalize acc ++ [t] = acc' at hal HSF HR4
      by_cases hend : k + n < L
      · have hne : ¬ C - k = n := by omega
        go_wp2_with fail
        rw [Nat.sub_sub, Nat.sub_sub]
        exact ⟨⟨k + n, _, _, acc', rfl, by omega, hal, fun _ => ⟨rfl, rfl⟩, HSF, HR4, HB4⟩, by simp only [sliceLen]; omega⟩
      · have hend' : L - k = n := by omega
        by_cases hne : C - k = n
        all_goals
          go_wp2_with fail
          try rw [Nat.sub_sub]
          exact ⟨⟨k + n, _, _, acc', by first | rfl | (rw [hend'] ; rfl) | (congr 1; omega), by omega, hal, fun h => absurd h hend, HSF, HR4, HB4⟩, by simp only [sliceLen]; omega⟩
    · obtain rfl : k = L := by omega
      have HSF := Lib.hid (HS.out.trans (show acc ++ (cks m (R.drop k)).map runesBytes = acc by rw [cks_end (.inl (List.drop_of_length_le (by rw [HLR.out]; omega)))]; simp))
      have HBL := Lib.hid (HBW.out.trans (hbel.out.mono hwz))
      have hwl := HBL.out.size
      obtain ⟨A2, c2, rfl, hc2, hC2⟩ := Kd.R_reads hR.out
      have HC2 := Lib.hid hC2
      rw [← HSF.out] at HC2
      have hlen : acc.length = S.length := by rw [HSF.out]
      rw [hlen]
      have hse := sentences_any none none 0 0 m [] [] s (decT s.data.toList) wr (Kd.C_nil _ _) (Kd.C_nil _ _) (by decide) (by decide) (by omega) (fun wx Cx hbx hcx _ => utf8_decodes (tabs_keep HT.out (HBL.out.trans (hbx.mono hwl))) hcx)
      rw [HSE.out] at hse
      unfold splV at hse
      have HSX := Lib.hid hse
      clear hse hC2 HSF HS HC hab hlen
      go_wp2_with fail
      refine HSX.out.mono ?_
      rintro e w4 ⟨v, rfl, hR4, hb4⟩
      obtain ⟨A1, c1, rfl, hc1, hC1⟩ := Kd.R_reads hR4
      have HW4 := Lib.hid (HBL.out.trans (hb4.mono hwl))
      have hw4 := HW4.out.size
      have HC1 := Lib.hid hC1
      have HC3 := Lib.hid (Kd.C_below HC2.out hb4)
      clear hR4 hC1 hb4 HC2 HSX
      go_wp2_with fail
      refine (sameStr_any A1 A2 c1 c2 S S w4 HC1.out HC3.out).mono ?_
      rintro e w5 ⟨rfl, hb5⟩
      have HW5 := Lib.hid (HW4.out.trans (hb5.mono hw4))
      have hw5 := HW5.out.size
      clear hb5
      rw [show decide (S = S) = true from decide_eq_true rfl]
      go_wp2_with fail
      refine (HP.out w5).mono ?_
      rintro e w6 ⟨rfl, hb6⟩
      have HW6 := Lib.hid (HW5.out.trans (hb6.mono hw5))
      clear hb6
      go_wp2_with fail
      go_ret
      exact ⟨by simp, HW6.out⟩

theorem tabs_cut {W : World} (h : laidMetH Tryd.prog Rows.fnSentencesCutRow.laid W) : Lib.Utf8Tabs 1 2 W := by
  rw [MakeChecks.laidMetH_plain _ _ _ (by kernel_rfl)] at h
  exact tabs_of h (.tail _ (.tail _ (.head _))) (.head _)
end Go.Proofs.YtaniafohcaiedaaDoor.Sn
