/-
  The walk of laws.FnScanPieces.
-/
import Derived.Test.YtaniafohcaiedaaDoorPa
import Derived.Test.YtaniafohcaiedaaDoorPb
import Derived.Test.YtaniafohcaiedaaDoorGd
set_option linter.unusedVariables false
set_option linter.unusedSimpArgs false
namespace Go.Proofs.YtaniafohcaiedaaDoor.Sn
open Go.RowKit Go.Proofs.YtaniafohcaiedaaDoor.K Go.Proofs.YtaniafohcaiedaaDoorW.PrintWords

theorem pc_conv (s : ByteArray) (hs : s.size ≤ 2147483647) (W : World) : ∃ C, (rnL s.data.toList).length ≤ C ∧ C ≤ 9223372036854775807 ∧ (convert 9 46 (.string s)).run Tryd.prog W = .ok (.slice (some ⟨W.heap.size, 0, none⟩) (rnL s.data.toList).length C) ((W.alloc (.cells (((rnL s.data.toList).map (Value.int .i32)).toArray ++ Array.replicate (C - (rnL s.data.toList).length) (Value.int .i32 0)) 21)).drew) := by
  have h := run_runes_of_string (P := Tryd.prog) W 9 46 21 s Tryd.underlying9 Tryd.underlying46 Tryd.underlying21
  rw [runes_of] at h
  have hl := rnL_len _ s.data.toList (Nat.le_refl _)
  have hz : s.data.toList.length = s.size := data_length s
  have hsz : (((rnL s.data.toList).map (Value.int .i32)).toArray).size = (rnL s.data.toList).length := by simp
  rw [hsz] at h
  refine ⟨_, grownCap_ge _ _ _ _, ?_, h (by omega)⟩
  have := grownCap_le_maxLen W (rnL s.data.toList).length 0 21 (by simp only [maxLen]; omega)
  simpa [maxLen] using this
theorem pc_cell (R : List Int) (C : Nat) (W : World) (j : Nat) (hj : j < R.length) : ((W.alloc (.cells ((R.map (Value.int .i32)).toArray ++ Array.replicate (C - R.length) (Value.int .i32 0)) 21))).cell? ⟨W.heap.size, j, none⟩ = some (.int .i32 R[j]) := by
  rw [cell_of_heap (heap_new W _), Array.getElem?_append_left (by simpa using hj)]
  simp [hj]

/-- The text of the first k characters. -/
def hv (l : List UInt8) (k : Nat) : ByteArray := ⟨(bytesL ((rnL l).take k)).toArray⟩
theorem hv_size (l : List UInt8) (k : Nat) : (hv l k).size = bl l k := len_mk _
theorem hv_zero (l : List UInt8) : hv l 0 = ⟨#[]⟩ := by simp [hv, bytesL]
theorem bl_zero (l : List UInt8) : bl l 0 = 0 := by simp [bl, bytesL]
theorem hv_cat (l : List UInt8) (k n : Nat) : hv l k ++ ⟨(bytesL (((rnL l).drop k).take n)).toArray⟩ = hv l (k + n) := by
  apply ByteArray.ext
  apply Array.ext'
  simp [hv, List.take_add, bytesL_append]
theorem hv_tail (l : List UInt8) {j k : Nat} (hj : j ≤ k) : ((hv l k).extract (bl l j) (bl l k)).data.toList = bytesL (((rnL l).drop j).take (k - j)) := by
  have h1 := bl_add (l := l) j (k - j)
  rw [show j + (k - j) = k by omega] at h1
  rw [extract_list]
  have e : (hv l k).data.toList = bytesL ((rnL l).take j) ++ bytesL (((rnL l).drop j).take (k - j)) := by
    rw [← bytesL_append, ← List.take_add, show j + (k - j) = k by omega]
    simp [hv]
  rw [e, List.drop_left' (by rfl), List.take_of_length_le (by omega)]
theorem run_text {l : List UInt8} (k n : Nat) : runesBytes (((rnL l).drop k).take n) = ⟨(bytesL (((rnL l).drop k).take n)).toArray⟩ :=
  runesBytes_rnL l _ ⟨(rnL l).take k, ((rnL l).drop k).drop n, by rw [List.append_assoc, List.take_append_drop, List.take_append_drop]⟩
theorem SS_zero (dl fl : List Int) (most : Int) (s : ByteArray) (hg : GoodL s.data.toList) : SS dl fl most s = [] ++ (sentsR dl fl most ((rnL s.data.toList).drop 0)).map fun rs => ⟨(bytesL rs).toArray⟩ := by
  rw [SS_runes _ _ _ _ hg]; rfl

set_option maxHeartbeats 8000000 in
set_option maxRecDepth 5000 in
theorem pieces_walk (D F : Option Addr) (cd cf : Nat) (sk db : Bool) (most : Int) (dl fl : List Int) (s : ByteArray) (Az : Option Addr) (cz : Nat) (zs : List Int) (hs0 : s.size ≤ 9223372036854775807) (w : World) (hD : (Kd.int .i32).C w D dl.length dl) (hF : (Kd.int .i32).C w F fl.length fl) (hT : Lib.Utf8Tabs 1 2 w)
    (hZ : (Kd.int .u8).C w Az zs.length zs) (hzv : ∀ x ∈ zs, (Lit.int .u8 x).wf = true) :
    Calls Tryd.prog 10 #[splV D F dl.length cd fl.length cf sk db most, .string s, .slice Az zs.length cz] w fun e w' => e = .returned (.bool true) ∧ Below w.heap.size w w' := by
  have hdm := hD.2.1
  have hfm := hF.2.1
  have hzm := hZ.2.1
  have HD := Lib.hid hD
  have HF := Lib.hid hF
  have HT := Lib.hid hT
  have HZS := Lib.hid hZ
  have HZV := Lib.hid hzv
  clear hD hF hT hZ hzv
  have HP := Lib.hid parts_any
  have HZ := Lib.hid (fun W => zzFits18_any D F dl.length cd fl.length cf sk db most W hdm hfm)
  show Calls _ _ #[.agg #[.slice D dl.length cd, .slice F fl.length cf, .bool sk, .bool db, .int .i64 most], .string s, .slice Az zs.length cz] w _
  go_enter Tryd.func10, Tryd.ntmps10
  have hg0 := heap_new w (.cells #[.slice D dl.length cd, .slice F fl.length cf, .bool sk, .bool db, .int .i64 most] 50)
  have hbw : Below w.heap.size w (w.alloc (.cells #[.slice D dl.length cd, .slice F fl.length cf, .bool sk, .bool db, .int .i64 most] 50)) := below_alloc (Below.refl _ _) _
  go_wp2_with fail
  generalize hW0 : w.alloc (.cells #[.slice D dl.length cd, .slice F fl.length cf, .bool sk, .bool db, .int .i64 most] 50) = wb at hg0 hbw ⊢
  have hz0 : w.heap.size < wb.heap.size := lt_of_heap hg0
  have H0 := Lib.hid hg0
  have HBW := Lib.hid hbw
  clear hW0 hg0 hbw
  refine (HZ.out wb).mono ?_
  rintro e w1 ⟨b, rfl, hb, hb1⟩
  have HB := Lib.hid hb
  have HW1 := Lib.hid (HBW.out.trans (hb1.mono (Nat.le_of_lt hz0)))
  have H1 := Lib.hid (blk_keep H0.out hb1)
  have hw1 := HW1.out.size
  clear hb hb1
  cases b
  · go_wp2_with fail
    go_ret
    exact ⟨by simp, HW1.out⟩
  obtain ⟨hdl, hfl⟩ := HB.out rfl
  by_cases hs : (2147483647 : Int) < s.size
  · go_wp2_with fail
    go_ret
    exact ⟨by simp, HW1.out⟩
  by_cases hzz : (2147483647 : Int) < zs.length
  · go_wp2_with fail
    go_ret
    exact ⟨by simp, HW1.out⟩
  clear HB HZ H0 HBW hz0
  obtain ⟨c0, c1, c2, c3, c4⟩ := cells5 H1.out
  go_wp2_with fail
  refine (splits_any D F cd cf sk db most dl fl w1 (Kd.C_below HD.out HW1.out) (Kd.C_below HF.out HW1.out) hdl hfl).mono ?_
  rintro e w2 ⟨b, rfl, -, hb2⟩
  have HW2 := Lib.hid (HW1.out.trans (hb2.mono hw1))
  have H2 := Lib.hid (blk_keep H1.out hb2)
  have hw2 := HW2.out.size
  clear hb2 c0 c1 c2 c3 c4
  obtain ⟨c0, c1, c2, c3, c4⟩ := cells5 H2.out
  cases b
  · go_wp2_with fail
    refine (HP.out _).mono ?_
    rintro e w9 ⟨rfl, hb9⟩
    have HW9 := Lib.hid (HW2.out.trans (hb9.mono hw2))
    clear hb9
    go_wp2_with fail
    go_ret
    exact ⟨by simp, HW9.out⟩
  go_wp2_with fail
  refine (readable_any s hs0 w2).mono ?_
  rintro e w3 ⟨b, rfl, hb, hb3⟩
  have HB := Lib.hid hb
  have HW3 := Lib.hid (HW2.out.trans (hb3.mono hw2))
  have H3 := Lib.hid (blk_keep H2.out hb3)
  have hw3 := HW3.out.size
  clear hb hb3 c0 c1 c2 c3 c4
  obtain ⟨c0, c1, c2, c3, c4⟩ := cells5 H3.out
  cases b
  · go_wp2_with fail
    refine (HP.out _).mono ?_
    rintro e w9 ⟨rfl, hb9⟩
    have HW9 := Lib.hid (HW3.out.trans (hb9.mono hw3))
    clear hb9
    go_wp2_with fail
    go_ret
    exact ⟨by simp, HW9.out⟩
  obtain ⟨hgood, h300⟩ := HB.out rfl
  cases sk
  rotate_left
  · go_wp2_with fail
    refine (HP.out _).mono ?_
    rintro e w9 ⟨rfl, hb9⟩
    have HW9 := Lib.hid (HW3.out.trans (hb9.mono hw3))
    clear hb9
    go_wp2_with fail
    go_ret
    exact ⟨by simp, HW9.out⟩
  cases db
  rotate_left
  · go_wp2_with fail
    refine (HP.out _).mono ?_
    rintro e w9 ⟨rfl, hb9⟩
    have HW9 := Lib.hid (HW3.out.trans (hb9.mono hw3))
    clear hb9
    go_wp2_with fail
    go_ret
    exact ⟨by simp, HW9.out⟩
  by_cases h60 : (60 : Int) < zs.length
  · go_wp2_with fail
    refine (HP.out _).mono ?_
    rintro e w9 ⟨rfl, hb9⟩
    have HW9 := Lib.hid (HW3.out.trans (hb9.mono hw3))
    clear hb9
    go_wp2_with fail
    go_ret
    exact ⟨by simp, HW9.out⟩
  clear HB H1 H2 HW1 HW2 hw1 hw2
  obtain ⟨C, hCg, hCm, hcv⟩ := pc_conv s (by omega) w3
  have hba := (HW3.out.alloc hw3 (.cells (((rnL s.data.toList).map (Value.int .i32)).toArray ++ Array.replicate (C - (rnL s.data.toList).length) (Value.int .i32 0)) 21)).drew
  have hka : Below w3.heap.size w3 _ := ((Below.refl _ w3).alloc (Nat.le_refl _) (.cells (((rnL s.data.toList).map (Value.int .i32)).toArray ++ Array.replicate (C - (rnL s.data.toList).length) (Value.int .i32 0)) 21)).drew
  have hca : ∀ j (hj : j < (rnL s.data.toList).length), ((w3.alloc (.cells (((rnL s.data.toList).map (Value.int .i32)).toArray ++ Array.replicate (C - (rnL s.data.toList).length) (Value.int .i32 0)) 21)).drew).cell? ⟨w3.heap.size, j, none⟩ = some (.int .i32 (rnL s.data.toList)[j]) := fun j hj => pc_cell _ C w3 j hj
  generalize hWa : (w3.alloc (.cells (((rnL s.data.toList).map (Value.int .i32)).toArray ++ Array.replicate (C - (rnL s.data.toList).length) (Value.int .i32 0)) 21)).drew = w0 at hcv hba hka hca
  have hrl := rnL_len _ s.data.toList (Nat.le_refl _)
  have hzl : s.data.toList.length = s.size := data_length s
  rw [hzl] at hrl
  have H4 := Lib.hid (blk_keep H3.out hka)
  have HWB := Lib.hid hba
  have HCA := Lib.hid hca
  have hwb := HWB.out.size
  have hgz : w.heap.size < w0.heap.size := lt_of_heap H4.out
  obtain ⟨g, hgg⟩ : ∃ g, w3.heap.size = g := ⟨_, rfl⟩
  rw [hgg] at HCA hcv
  obtain ⟨L, hL⟩ : ∃ L, (rnL s.data.toList).length = L := ⟨_, rfl⟩
  have hSZ := SS_zero dl fl most s hgood
  have hSL := SS_len dl fl most s hgood
  obtain ⟨S, hS⟩ : ∃ S, SS dl fl most s = S := ⟨_, rfl⟩
  rw [hS] at hSZ hSL
  have HS := Lib.hid hS
  have HSZ := Lib.hid hSZ
  have HL := Lib.hid hL
  have HG := Lib.hid hgood
  rw [hL] at hCg hcv hrl
  clear hWa hba hka hca H3 HW3 hw3 hgg hS hSZ hL hgood
  go_wp2_with fail
  clear c0 c1 c2 c3 c4
  go_loopw [7, 8, 9, 10, 11] (fun v7 v8 v9 v10 v11 wr => ∃ (k j i : Nat) (Ab : Option Addr) (Cb : Nat) (acc : List ByteArray), v8 = .slice Ab (L - k) Cb ∧ k ≤ L ∧ j ≤ k ∧ (k < L → Ab = some ⟨g, k, none⟩ ∧ Cb = C - k) ∧ v9 = .string (hv s.data.toList k) ∧ v10 = .int .i64 (bl s.data.toList j : Nat) ∧ v11 = .int .i64 i ∧ i ≤ zs.length + 1 ∧ (zs.length < i → k = L) ∧ (k = L → j = L) ∧ acc.length ≤ j ∧ Hid (S = acc ++ (sentsR dl fl most ((rnL s.data.toList).drop j)).map fun rs => ⟨(bytesL rs).toArray⟩) ∧ Hid (Kd.string.R 9 wr w0.heap.size (fun _ => True) v7 acc) ∧ Hid (Below w0.heap.size w0 wr)) (fun _ _ _ _ v11 _ => zs.length + 1 - (intOf v11).toNat)
  case atStart =>
    exact ⟨0, 0, 0, _, _, [], rfl, Nat.zero_le _, Nat.le_refl _, fun _ => ⟨rfl, rfl⟩, by rw [hv_zero], by rw [bl_zero]; rfl, rfl, by omega, by omega, fun h => h, Nat.le_refl _, Lib.hid HSZ.out, Lib.hid (Kd.R_nil _ _ _ _ _), Lib.hid (Below.refl _ _)⟩
  case round =>
    clear HSZ
    obtain ⟨k, j, i, Ab, Cb, acc, rfl, hk, hj, hab, rfl, rfl, rfl, hi, hik, hkL, hacc, HS1, hR, hbel⟩ := hrel
    have hzr := hbel.out.size
    by_cases hlt : k < L
    · obtain ⟨rfl, rfl⟩ := hab hlt
      have hlen : (0 : Int) < ((L - k : Nat) : Int) := by omega
      go_upto_if 70 with fail
      go_cut [12] (fun s12 wx => ∃ n : Nat, s12 = .int .i64 n ∧ n ≤ L - k ∧ (zs.length ≤ i → n = L - k) ∧ wr = wx)
      case first =>
        by_cases hiz : i < zs.length
        · obtain ⟨ad, rfl, hcz⟩ := runes_at (Kd.C_below HZS.out (HWB.out.trans (hbel.out.mono hwb))) i hiz
          have hwf := HZV.out zs[i] (List.getElem_mem _)
          obtain ⟨z, hz⟩ : ∃ z, zs[i] = z := ⟨_, rfl⟩
          rw [hz] at hcz hwf
          go_wp2_with fail
          go_meet
          case rel =>
            have hz9 : 0 ≤ z ∧ z ≤ 255 := by simpa [Lit.wf, IntKind.min, IntKind.max, IntKind.signed, IntKind.bits] using hwf
            have ht : wrap64 (z.tmod 9) = z % 9 := by
              rw [Int.tmod_eq_emod_of_nonneg hz9.1]
              unfold wrap64
              omega
            rw [ht]
            exact ⟨(min ((L - k : Nat) : Int) (z % 9)).toNat, by congr 1; omega, by omega, fun h => by omega, rfl⟩
        · go_wp2_with fail
          go_meet
          case rel => exact ⟨L - k, rfl, Nat.le_refl _, fun _ => rfl, rfl⟩
      case rest =>
        obtain ⟨n, rfl, hnL, hni, rfl⟩ := hcut
        have hnC : n ≤ C - k := by omega
        have hkn : k + n ≤ L := by omega
        have hcv := run_convert_runes (P := Tryd.prog) wr 46 9 21 ⟨g, k, none⟩ n (C - k) ((rnL s.data.toList).drop k) (by rw [List.length_drop, HL.out]; exact hnL) Tryd.underlying46 Tryd.underlying21 Tryd.underlying9 (by
          intro q hq
          rw [List.length_drop, HL.out] at hq
          have hc := HCA.out (k + q) (by rw [HL.out]; omega)
          rw [add_plain', hbel.out.cell (World.block_lt_of_cell? _ _ hc), hc]
          simp [List.getElem?_eq_getElem (show k + q < (rnL s.data.toList).length by rw [HL.out]; omega)])
        rw [run_text] at hcv
        have hcat := hv_cat s.data.toList k n
        have hsz := hv_size s.data.toList (k + n)
        have hble := bl_le HG.out (k + n)
        rw [show s.data.toList.length = s.size from data_length s] at hble
        obtain ⟨X, hX⟩ : ∃ X : ByteArray, ⟨(bytesL (((rnL s.data.toList).drop k).take n)).toArray⟩ = X := ⟨_, rfl⟩
        rw [hX] at hcv hcat
        have hsum : ¬ (9223372036854775807 < (hv s.data.toList k).size + X.size) := by
          rw [← ByteArray.size_append, hcat, hsz]
          omega
        go_upto_region 15 with fail
        try simp only [hcat]
        go_cut [8] (fun s8 wx => ∃ A8 C8, s8 = .slice A8 (L - (k + n)) C8 ∧ (k + n < L → A8 = some ⟨g, k + n, none⟩ ∧ C8 = C - (k + n)) ∧ wr = wx)
        case first =>
          by_cases hend : k + n < L
          · have hne : ¬ C - k = n := by omega
            go_wp2_with fail
            go_meet
            case rel => exact ⟨_, _, by rw [Nat.sub_sub], fun _ => ⟨rfl, by rw [Nat.sub_sub]⟩, rfl⟩
          · have hend' : L - k = n := by omega
            by_cases hne : C - k = n
            all_goals
              go_wp2_with fail
              go_meet
              case rel => exact ⟨_, _, by congr 1; omega, fun h => absurd h hend, rfl⟩
        case rest =>
          obtain ⟨A8, C8, rfl, hA8, rfl⟩ := hcut
          have HA8 := Lib.hid hA8
          clear hcv hX hsum hcat hnC hA8
          go_wp2_with fail
          go_loopw [7, 10] (fun v7 v10 wi => ∃ (j : Nat) (acc : List ByteArray), v10 = .int .i64 (bl s.data.toList j : Nat) ∧ j ≤ k + n ∧ acc.length ≤ j ∧ Hid (S = acc ++ (sentsR dl fl most ((rnL s.data.toList).drop j)).map fun rs => ⟨(bytesL rs).toArray⟩) ∧ Hid (Kd.string.R 9 wi w0.heap.size (fun _ => True) v7 acc) ∧ Hid (Below w0.heap.size w0 wi)) (fun _ v10 _ => bl s.data.toList (k + n) - (intOf v10).toNat)
          case atStart => exact ⟨j, acc, rfl, by omega, hacc, HS1, hR, hbel⟩
          case round =>
            clear HS1 hR hbel hacc hj hkL hzr
            obtain ⟨j, acc, rfl, hj, hacc, HS1, hRi, hbi⟩ := hrel
            have hi60 : ¬ ((400 : Int) < (i : Int)) := by omega
            by_cases hjk : j < k + n
            · have hb := bl_lt HG.out hjk (by rw [HL.out]; exact hkn)
              have hcond : ((bl s.data.toList j : Nat) : Int) < ((hv s.data.toList (k + n)).size : Int) := by rw [hsz]; omega
              have hcond2 : ((bl s.data.toList j : Nat) : Int) ≤ ((hv s.data.toList (k + n)).size : Int) := by omega
              go_upto_region 17 with fail
              have hT := hv_tail s.data.toList hj
              have hble2 : bl s.data.toList j ≤ bl s.data.toList (k + n) := by omega
              obtain ⟨T, hTe⟩ : ∃ T, (hv s.data.toList (k + n)).extract (bl s.data.toList j) (bl s.data.toList (k + n)) = T := ⟨_, rfl⟩
              rw [hTe] at hT
              have hTs : T.size = bl s.data.toList (k + n) - bl s.data.toList j := by rw [← hTe, ByteArray.size_extract]; omega
              have HTs := Lib.hid hTs
              have hT0 : 0 < T.size := by omega
              have hT31 : T.size ≤ 2147483647 := by omega
              clear hTs
              obtain ⟨m, p, f, hm0, hmk, hg1, hp0, hpT, hpm, hex, hblp, hcons⟩ := piece dl fl most HG.out hjk (by rw [HL.out]; exact hkn) T hT
              have kb := fun W => print_bytes (P := Tryd.prog) 9 25 5 Tryd.underlying9 Tryd.underlying25 Tryd.underlying5 T W
              obtain ⟨eof, heof⟩ : ∃ b, (((L - (k + n) : Nat) : Int) == 0) = b := ⟨_, rfl⟩
              have heofL : eof = true ↔ k + n = L := by rw [← heof, beq_iff_eq]; omega
              refine wp_region_held_drew (S := (fun w' => w'.cell? ⟨w.heap.size, 0, none⟩ = some (.slice D dl.length cd) ∧ w'.cell? ⟨w.heap.size, 1, none⟩ = some (.slice F fl.length cf) ∧ w'.cell? ⟨w.heap.size, 2, none⟩ = some (.bool false) ∧ w'.cell? ⟨w.heap.size, 3, none⟩ = some (.bool false) ∧ w'.cell? ⟨w.heap.size, 4, none⟩ = some (.int .i64 most) ∧ Hid (Below w0.heap.size w0 w'))) (by kernel_rfl) ?_ (fun hHeld => ?_)
              · (try dsimp only); go_split_ands; exact keepB5 hgz H4.out (hid_drew hbi)
              have HBwd := hid_drew hbi
              have hRd := Lib.hid (Kd.R_below hRi.out (Below.refl _ wr).drew)
              generalize wr.drew = wd at HBwd hRd hHeld ⊢
              refine Gd.take 0 (v := ?_) (by simp only [List.getElem?_toArray, List.getElem?_cons_succ, List.getElem?_cons_zero]; rfl) (by kernel_rfl) (by kernel_rfl) (by kernel_rfl) (fun _ _ _ _ h => h) (Or.inl ⟨by rfl, ?_⟩) (by assumption) ?_
              rotate_left
              · ((intro w hSw; (try dsimp only at hSw); go_simp); (try with_reducible rfl))
              try simp only [Act.put, List.foldl_cons, List.foldl_nil, List.setIfInBounds_toArray, List.set_cons_zero, List.set_cons_succ]
              refine Gd.take 1 (v := ?_) (by simp only [List.getElem?_toArray, List.getElem?_cons_succ, List.getElem?_cons_zero]; rfl) (by kernel_rfl) (by kernel_rfl) (by kernel_rfl) (fun _ _ _ _ h => h) (Or.inl ⟨by rfl, ?_⟩) (by assumption) ?_
              rotate_left
              · ((intro w hSw; (try dsimp only at hSw); go_simp); (try with_reducible rfl))
              try simp only [Act.put, List.foldl_cons, List.foldl_nil, List.setIfInBounds_toArray, List.set_cons_zero, List.set_cons_succ]
              refine Gd.take 2 (v := ?_) (by simp only [List.getElem?_toArray, List.getElem?_cons_succ, List.getElem?_cons_zero]; rfl) (by kernel_rfl) (by kernel_rfl) (by kernel_rfl) (fun _ _ _ _ h => h) (Or.inl ⟨by rfl, ?_⟩) (by assumption) ?_
              rotate_left
              · ((intro w hSw; (try dsimp only at hSw); go_simp); (try with_reducible rfl))
              try simp only [Act.put, List.foldl_cons, List.foldl_nil, List.setIfInBounds_toArray, List.set_cons_zero, List.set_cons_succ]
              refine Gd.take 3 (v := ?_) (by simp only [List.getElem?_toArray, List.getElem?_cons_succ, List.getElem?_cons_zero]; rfl) (by kernel_rfl) (by kernel_rfl) (by kernel_rfl) (fun _ _ _ _ h => h) (Or.inl ⟨by rfl, ?_⟩) (by assumption) ?_
              rotate_left
              · ((intro w hSw; (try dsimp only at hSw); go_simp); (try with_reducible rfl))
              try simp only [Act.put, List.foldl_cons, List.foldl_nil, List.setIfInBounds_toArray, List.set_cons_zero, List.set_cons_succ]
              refine Gd.take 5 (v := ?_) (by simp only [List.getElem?_toArray, List.getElem?_cons_succ, List.getElem?_cons_zero]; rfl) (by kernel_rfl) (by kernel_rfl) (by kernel_rfl) (fun _ _ _ _ h => h) (Or.inl ⟨by rfl, ?_⟩) (by assumption) ?_
              rotate_left
              · ((intro w hSw; (try dsimp only at hSw); go_simp); (try with_reducible rfl))
              try simp only [Act.put, List.foldl_cons, List.foldl_nil, List.setIfInBounds_toArray, List.set_cons_zero, List.set_cons_succ]
              refine Gd.take 6 (v := ?_) (by simp only [List.getElem?_toArray, List.getElem?_cons_succ, List.getElem?_cons_zero]; rfl) (by kernel_rfl) (by kernel_rfl) (by kernel_rfl) (fun _ _ _ _ h => h) (Or.inl ⟨by rfl, ?_⟩) (by assumption) ?_
              rotate_left
              · ((intro w hSw; (try dsimp only at hSw); go_simp); (try with_reducible rfl))
              try simp only [Act.put, List.foldl_cons, List.foldl_nil, List.setIfInBounds_toArray, List.set_cons_zero, List.set_cons_succ]
              refine Gd.take 7 (v := ?_) (by simp only [List.getElem?_toArray, List.getElem?_cons_succ, List.getElem?_cons_zero]; rfl) (by kernel_rfl) (by kernel_rfl) (by kernel_rfl) (fun _ _ _ _ h => h) (Or.inl ⟨by rfl, ?_⟩) (by assumption) ?_
              rotate_left
              · ((intro w hSw; (try dsimp only at hSw); go_simp); (try with_reducible rfl))
              try simp only [Act.put, List.foldl_cons, List.foldl_nil, List.setIfInBounds_toArray, List.set_cons_zero, List.set_cons_succ]
              try simp only [hTe]
              try simp only [heof]
              refine wpAnyH_ready (rs := [4]) (by kernel_rfl) (by simp) (AllReadyH.cons (by simp only [List.getElem?_toArray, List.getElem?_cons_succ, List.getElem?_cons_zero]; rfl) (fun K hK => ?_) AllReadyH.nil)
              go_simp
              have hby := bytes_below (Below.refl wd.heap.size wd) (Nat.le_refl _) 5 T
              have hCt := Kd.C_of_reads (enc := Value.int .u8) (d := (0 : Int)) (h1 := fun _ => rfl) (bytes_reads wd 5 T (Nat.le_trans hT31 (by decide)))
              generalize Lib.bytesWorld wd 5 T = wy at hby hCt ⊢
              have HBwy := Lib.hid (hid_trans (Nat.le_refl _) HBwd hby)
              have hRy := Lib.hid (Kd.R_below hRd.out hby)
              have HCt := Lib.hid hCt
              clear hby hCt hRd
              refine hK.out _ _ ?_ (fun hHeld => ?_)
              · (try dsimp only); go_split_ands; exact keepB5 hgz H4.out HBwy
              clear hK K
              try simp only [Act.put, List.foldl_cons, List.foldl_nil, List.setIfInBounds_toArray, List.set_cons_zero, List.set_cons_succ]
              refine wpAnyH_ready (rs := [8]) (by kernel_rfl) (by simp) (AllReadyH.cons (by simp only [List.getElem?_toArray, List.getElem?_cons_succ, List.getElem?_cons_zero]; rfl) (fun K hK => ?_) AllReadyH.nil)
              go_simp
              have hWy := HWB.out.trans (HBwy.out.mono hwb)
              have hsc := scan_any D F cd cf most dl fl T _ (grownCap wd T.size 0 5) eof p f wy (Kd.C_below HD.out hWy) (Kd.C_below HF.out hWy) hdl hfl (tabs_keep HT.out hWy) HCt.out hT0 hT31 hg1 hpT hp0
              unfold splV at hsc
              (go_at_call 31; go_split_ands; with_reducible refine hsc.mono ?_)
              rintro e w5 ⟨bv, hlq, hif⟩
              have HBw5 := Lib.hid (hid_trans (Nat.le_refl _) HBwy hlq)
              have hR5 := Lib.hid (Kd.R_below hRy.out hlq)
              clear hlq hsc hWy hRy HCt
              cases hfe : (f || eof)
              · rw [hfe] at hif
                simp only [Bool.false_eq_true, if_false] at hif
                obtain rfl := hif
                have hkl : k + n < L := by
                  rcases Nat.lt_or_ge (k + n) L with h | h
                  · exact h
                  · rw [heofL.2 (by omega)] at hfe; simp at hfe
                refine hK.out _ _ ?_ (fun hHeld => ?_)
                · (try dsimp only); go_split_ands; exact keepB5 hgz H4.out HBw5
                clear hK K
                try simp only [Act.put, List.foldl_cons, List.foldl_nil, List.setIfInBounds_toArray, List.set_cons_zero, List.set_cons_succ]
                refine Gd.take 9 (v := ?_) (by simp only [List.getElem?_toArray, List.getElem?_cons_succ, List.getElem?_cons_zero]; rfl) (by kernel_rfl) (by kernel_rfl) (by kernel_rfl) (fun _ _ _ _ h => h) (Or.inl ⟨by rfl, ?_⟩) (by assumption) ?_
                rotate_left
                · ((intro w hSw; (try dsimp only at hSw); go_simp); (try with_reducible rfl))
                try simp only [Act.put, List.foldl_cons, List.foldl_nil, List.setIfInBounds_toArray, List.set_cons_zero, List.set_cons_succ]
                refine Gd.take 10 (v := ?_) (by simp only [List.getElem?_toArray, List.getElem?_cons_succ, List.getElem?_cons_zero]; rfl) (by kernel_rfl) (by kernel_rfl) (by kernel_rfl) (fun _ _ _ _ h => h) (Or.inl ⟨by rfl, ?_⟩) (by assumption) ?_
                rotate_left
                · ((intro w hSw; (try dsimp only at hSw); go_simp); (try with_reducible rfl))
                try simp only [Act.put, List.foldl_cons, List.foldl_nil, List.setIfInBounds_toArray, List.set_cons_zero, List.set_cons_succ]
                refine Gd.take 11 (v := ?_) (by simp only [List.getElem?_toArray, List.getElem?_cons_succ, List.getElem?_cons_zero]; rfl) (by kernel_rfl) (by kernel_rfl) (by kernel_rfl) (fun _ _ _ _ h => h) (Or.inl ⟨by rfl, ?_⟩) (by assumption) ?_
                rotate_left
                · ((intro w hSw; (try dsimp only at hSw); go_simp); (try with_reducible rfl))
                try simp only [Act.put, List.foldl_cons, List.foldl_nil, List.setIfInBounds_toArray, List.set_cons_zero, List.set_cons_succ]
                refine Gd.take 12 (v := ?_) (by simp only [List.getElem?_toArray, List.getElem?_cons_succ, List.getElem?_cons_zero]; rfl) (by kernel_rfl) (by kernel_rfl) (by kernel_rfl) (fun _ _ _ _ h => h) (Or.inl ⟨by rfl, ?_⟩) (by assumption) ?_
                rotate_left
                · ((intro w hSw; (try dsimp only at hSw); go_simp); (try with_reducible rfl))
                try simp only [Act.put, List.foldl_cons, List.foldl_nil, List.setIfInBounds_toArray, List.set_cons_zero, List.set_cons_succ]
                refine Gd.take 13 (v := ?_) (by simp only [List.getElem?_toArray, List.getElem?_cons_succ, List.getElem?_cons_zero]; rfl) (by kernel_rfl) (by kernel_rfl) (by kernel_rfl) (fun _ _ _ _ h => h) (Or.inl ⟨by rfl, ?_⟩) (by assumption) ?_
                rotate_left
                · ((intro w hSw; (try dsimp only at hSw); go_simp); (try with_reducible rfl))
                try simp only [Act.put, List.foldl_cons, List.foldl_nil, List.setIfInBounds_toArray, List.set_cons_zero, List.set_cons_succ]
                refine Gd.take 14 (v := ?_) (by simp only [List.getElem?_toArray, List.getElem?_cons_succ, List.getElem?_cons_zero]; rfl) (by kernel_rfl) (by kernel_rfl) (by kernel_rfl) (fun _ _ _ _ h => h) (Or.inl ⟨by rfl, ?_⟩) (by assumption) ?_
                rotate_left
                · ((intro w hSw; (try dsimp only at hSw); go_simp); (try with_reducible rfl))
                try simp only [Act.put, List.foldl_cons, List.foldl_nil, List.setIfInBounds_toArray, List.set_cons_zero, List.set_cons_succ]
                refine Gd.take 15 (v := ?_) (by simp only [List.getElem?_toArray, List.getElem?_cons_succ, List.getElem?_cons_zero]; rfl) (by kernel_rfl) (by kernel_rfl) (by kernel_rfl) (fun _ _ _ _ h => h) (Or.inl ⟨by rfl, ?_⟩) (by assumption) ?_
                rotate_left
                · ((intro w hSw; (try dsimp only at hSw); go_simp); (try with_reducible rfl))
                try simp only [Act.put, List.foldl_cons, List.foldl_nil, List.setIfInBounds_toArray, List.set_cons_zero, List.set_cons_succ]
                refine Gd.take 16 (v := ?_) (by simp only [List.getElem?_toArray, List.getElem?_cons_succ, List.getElem?_cons_zero]; rfl) (by kernel_rfl) (by kernel_rfl) (by kernel_rfl) (fun _ _ _ _ h => h) (Or.inl ⟨by rfl, ?_⟩) (by assumption) ?_
                rotate_left
                · ((intro w hSw; (try dsimp only at hSw); go_simp); (try with_reducible rfl))
                try simp only [Act.put, List.foldl_cons, List.foldl_nil, List.setIfInBounds_toArray, List.set_cons_zero, List.set_cons_succ]
                refine Gd.take 17 (v := ?_) (by simp only [List.getElem?_toArray, List.getElem?_cons_succ, List.getElem?_cons_zero]; rfl) (by kernel_rfl) (by kernel_rfl) (by kernel_rfl) (fun _ _ _ _ h => h) (Or.inl ⟨by rfl, ?_⟩) (by assumption) ?_
                rotate_left
                · ((intro w hSw; (try dsimp only at hSw); go_simp); (try with_reducible rfl))
                try simp only [Act.put, List.foldl_cons, List.foldl_nil, List.setIfInBounds_toArray, List.set_cons_zero, List.set_cons_succ]
                refine wpAnyH_done (by kernel_rfl) ?_ _
                go_wp2_with fail
                exact ⟨⟨k + n, j, i + 1, A8, C8, acc, rfl, hkn, hj, HA8.out, rfl, rfl, by go_num, by omega, fun h => by omega, fun h => by omega, hacc, HS1, hR5, HBw5⟩, by simp [intOf]; omega⟩
              · rw [hfe] at hif
                simp only [if_true] at hif
                obtain ⟨A5, c5, rfl, hC5⟩ := hif
                have HC5 := Lib.hid hC5
                clear hC5
                refine hK.out _ _ ?_ (fun hHeld => ?_)
                · (try dsimp only); go_split_ands; exact keepB5 hgz H4.out HBw5
                clear hK K
                try simp only [Act.put, List.foldl_cons, List.foldl_nil, List.setIfInBounds_toArray, List.set_cons_zero, List.set_cons_succ]
                refine Gd.take 9 (v := ?_) (by simp only [List.getElem?_toArray, List.getElem?_cons_succ, List.getElem?_cons_zero]; rfl) (by kernel_rfl) (by kernel_rfl) (by kernel_rfl) (fun _ _ _ _ h => h) (Or.inl ⟨by rfl, ?_⟩) (by assumption) ?_
                rotate_left
                · ((intro w hSw; (try dsimp only at hSw); go_simp); (try with_reducible rfl))
                try simp only [Act.put, List.foldl_cons, List.foldl_nil, List.setIfInBounds_toArray, List.set_cons_zero, List.set_cons_succ]
                refine Gd.take 10 (v := ?_) (by simp only [List.getElem?_toArray, List.getElem?_cons_succ, List.getElem?_cons_zero]; rfl) (by kernel_rfl) (by kernel_rfl) (by kernel_rfl) (fun _ _ _ _ h => h) (Or.inl ⟨by rfl, ?_⟩) (by assumption) ?_
                rotate_left
                · ((intro w hSw; (try dsimp only at hSw); go_simp); (try with_reducible rfl))
                try simp only [Act.put, List.foldl_cons, List.foldl_nil, List.setIfInBounds_toArray, List.set_cons_zero, List.set_cons_succ]
                refine Gd.take 11 (v := ?_) (by simp only [List.getElem?_toArray, List.getElem?_cons_succ, List.getElem?_cons_zero]; rfl) (by kernel_rfl) (by kernel_rfl) (by kernel_rfl) (fun _ _ _ _ h => h) (Or.inl ⟨by rfl, ?_⟩) (by assumption) ?_
                rotate_left
                · ((intro w hSw; (try dsimp only at hSw); go_simp); (try with_reducible rfl))
                try simp only [Act.put, List.foldl_cons, List.foldl_nil, List.setIfInBounds_toArray, List.set_cons_zero, List.set_cons_succ]
                refine Gd.take 12 (v := ?_) (by simp only [List.getElem?_toArray, List.getElem?_cons_succ, List.getElem?_cons_zero]; rfl) (by kernel_rfl) (by kernel_rfl) (by kernel_rfl) (fun _ _ _ _ h => h) (Or.inl ⟨by rfl, ?_⟩) (by assumption) ?_
                rotate_left
                · ((intro w hSw; (try dsimp only at hSw); go_simp); (try with_reducible rfl))
                try simp only [Act.put, List.foldl_cons, List.foldl_nil, List.setIfInBounds_toArray, List.set_cons_zero, List.set_cons_succ]
                refine Gd.take 13 (v := ?_) (by simp only [List.getElem?_toArray, List.getElem?_cons_succ, List.getElem?_cons_zero]; rfl) (by kernel_rfl) (by kernel_rfl) (by kernel_rfl) (fun _ _ _ _ h => h) (Or.inl ⟨by rfl, ?_⟩) (by assumption) ?_
                rotate_left
                · ((intro w hSw; (try dsimp only at hSw); go_simp); (try with_reducible rfl))
                try simp only [Act.put, List.foldl_cons, List.foldl_nil, List.setIfInBounds_toArray, List.set_cons_zero, List.set_cons_succ]
                refine Gd.take 14 (v := ?_) (by simp only [List.getElem?_toArray, List.getElem?_cons_succ, List.getElem?_cons_zero]; rfl) (by kernel_rfl) (by kernel_rfl) (by kernel_rfl) (fun _ _ _ _ h => h) (Or.inl ⟨by rfl, ?_⟩) (by assumption) ?_
                rotate_left
                · ((intro w hSw; (try dsimp only at hSw); go_simp); (try with_reducible rfl))
                try simp only [Act.put, List.foldl_cons, List.foldl_nil, List.setIfInBounds_toArray, List.set_cons_zero, List.set_cons_succ]
                refine Gd.take 15 (v := ?_) (by simp only [List.getElem?_toArray, List.getElem?_cons_succ, List.getElem?_cons_zero]; rfl) (by kernel_rfl) (by kernel_rfl) (by kernel_rfl) (fun _ _ _ _ h => h) (Or.inl ⟨by rfl, ?_⟩) (by assumption) ?_
                rotate_left
                · ((intro w hSw; (try dsimp only at hSw); go_simp); (try with_reducible rfl))
                try simp only [Act.put, List.foldl_cons, List.foldl_nil, List.setIfInBounds_toArray, List.set_cons_zero, List.set_cons_succ]
                refine Gd.take 16 (v := ?_) (by simp only [List.getElem?_toArray, List.getElem?_cons_succ, List.getElem?_cons_zero]; rfl) (by kernel_rfl) (by kernel_rfl) (by kernel_rfl) (fun _ _ _ _ h => h) (Or.inl ⟨by rfl, ?_⟩) (by assumption) ?_
                rotate_left
                · ((intro w hSw; (try dsimp only at hSw); go_simp); (try with_reducible rfl))
                try simp only [Act.put, List.foldl_cons, List.foldl_nil, List.setIfInBounds_toArray, List.set_cons_zero, List.set_cons_succ]
                refine Gd.take 17 (v := ?_) (by simp only [List.getElem?_toArray, List.getElem?_cons_succ, List.getElem?_cons_zero]; rfl) (by kernel_rfl) (by kernel_rfl) (by kernel_rfl) (fun _ _ _ _ h => h) (Or.inl ⟨by rfl, ?_⟩) (by assumption) ?_
                rotate_left
                · ((intro w hSw; (try dsimp only at hSw); go_simp); (try with_reducible rfl))
                try simp only [Act.put, List.foldl_cons, List.foldl_nil, List.setIfInBounds_toArray, List.set_cons_zero, List.set_cons_succ]
                refine wpAnyH_done (by kernel_rfl) ?_ _
                have hp1 : ¬ ((p : Int) < 1) := by omega
                have hw18 : IntKind.i64.wrap (((bl s.data.toList (k + n) : Nat) : Int) - ((bl s.data.toList j : Nat) : Int)) = ((T.size : Nat) : Int) := by
                  have h8 := HTs.out
                  have h9 := hblp
                  rw [h8, IntKind.wrap_i64]
                  omega
                have hcv := Kd.C_string (P := Tryd.prog) (src := 25) (dst := 9) (e := 5) (w := w5) (A := A5) (n := p) (c := c5) (xs := (bytesOf T).take p) Tryd.underlying25 Tryd.underlying5 Tryd.underlying9 HC5.out
                have hx := bytes_ext (s := T) (off := 0) (e := p) (by omega)
                rw [List.drop_zero, Nat.zero_add, hex] at hx
                rw [hx] at hcv
                obtain ⟨Y, hY⟩ : ∃ Y : ByteArray, ⟨(bytesL (((rnL s.data.toList).drop j).take m)).toArray⟩ = Y := ⟨_, rfl⟩
                rw [hY] at hcv
                have HY := Lib.hid hY
                have hszw := szof HBw5
                have hadd : IntKind.i64.wrap (((bl s.data.toList j : Nat) : Int) + (p : Int)) = ((bl s.data.toList (j + m) : Nat) : Int) := by
                  rw [← hblp, IntKind.wrap_i64]
                  omega
                have HX := Lib.hid hcons
                clear hx hex hY hcons
                rcases Nat.lt_or_ge (k + n) L with hkl | hkl
                · have hl0 : (0 : Int) < ((L - (k + n) : Nat) : Int) := by omega
                  by_cases hpe : p = T.size
                  · have hpq : ((p : Int) == ((T.size : Nat) : Int)) = true := by rw [hpe]; simp
                    clear hpe
                    go_wp2_with fail
                    exact ⟨⟨k + n, j, i + 1, A8, C8, acc, rfl, hkn, hj, HA8.out, rfl, rfl, by go_num, by omega, fun h => by omega, fun h => by omega, hacc, HS1, hR5, HBw5⟩, by simp [intOf]; omega⟩
                  · have hpq : ((p : Int) == ((T.size : Nat) : Int)) = false := by
                      rw [beq_eq_false_iff_ne]
                      omega
                    have hmlt : m < k + n - j := by
                      rcases Nat.lt_or_ge m (k + n - j) with h | h
                      · exact h
                      · exact absurd (hpm.2 (by omega)) hpe
                    have HSE := Lib.hid (HX.out (.inl hmlt))
                    clear hpe hpm HX
                    have HSF := Lib.hid (show S = (acc ++ [Y]) ++ (sentsR dl fl most ((rnL s.data.toList).drop (j + m))).map (fun rs => (⟨(bytesL rs).toArray⟩ : ByteArray)) by rw [HS1.out, HSE.out, List.map_cons, HY.out, List.append_assoc]; rfl)
                    clear HSE
                    go_wp2_with (at_builtin; refine kapp (w0 := w0) Kd.string w0.heap.size rfl _ _ 45 9 (.string ⟨#[]⟩) 16 rfl Tryd.underlying45 (by kernel_rfl) rfl (by decide) (by decide) _ acc Y [.string Y] (fun _ => True) (fun _ => False) _ rfl rfl (by intro q u hq; rw [cell_of_heap (heap_new _ _)]; simpa using hq) rfl (fun _ h => h.elim) (fun _ _ => trivial) (Kd.R_alloc hR5.out _) (HBw5.out.alloc hszw _) (by simp; omega) (by omega) ?_)
                    intro v6 w6 hR6 hB6 hg6 hat6
                    have HR6 := Lib.hid hR6
                    have HB6 := Lib.hid hB6
                    clear hR6 hB6 hg6 hat6 hcv
                    go_wp2_with fail
                    exact ⟨⟨j + m, acc ++ [Y], rfl, by omega, by rw [List.length_append, List.length_singleton]; omega, HSF, HR6, HB6⟩, by simp [intOf]; omega⟩
                · have hl0 : ¬ ((0 : Int) < ((L - (k + n) : Nat) : Int)) := by omega
                  have HSE := Lib.hid (HX.out (.inr (by rw [HL.out]; omega)))
                  have hkl' : ¬ (k + n < L) := by omega
                  clear hpm HX hkl
                  rcases Bool.eq_false_or_eq_true ((p : Int) == ((T.size : Nat) : Int)) with hpq | hpq
                  all_goals
                    have HSF := Lib.hid (show S = (acc ++ [Y]) ++ (sentsR dl fl most ((rnL s.data.toList).drop (j + m))).map (fun rs => (⟨(bytesL rs).toArray⟩ : ByteArray)) by rw [HS1.out, HSE.out, List.map_cons, HY.out, List.append_assoc]; rfl)
                    clear HSE
                    go_wp2_with (at_builtin; refine kapp (w0 := w0) Kd.string w0.heap.size rfl _ _ 45 9 (.string ⟨#[]⟩) 16 rfl Tryd.underlying45 (by kernel_rfl) rfl (by decide) (by decide) _ acc Y [.string Y] (fun _ => True) (fun _ => False) _ rfl rfl (by intro q u hq; rw [cell_of_heap (heap_new _ _)]; simpa using hq) rfl (fun _ h => h.elim) (fun _ _ => trivial) (Kd.R_alloc hR5.out _) (HBw5.out.alloc hszw _) (by simp; omega) (by omega) ?_)
                    intro v6 w6 hR6 hB6 hg6 hat6
                    have HR6 := Lib.hid hR6
                    have HB6 := Lib.hid hB6
                    clear hR6 hB6 hg6 hat6 hcv
                    go_wp2_with fail
                    exact ⟨⟨j + m, acc ++ [Y], rfl, by omega, by rw [List.length_append, List.length_singleton]; omega, HSF, HR6, HB6⟩, by simp [intOf]; omega⟩
            · obtain rfl : j = k + n := by omega
              go_wp2_with fail
              exact ⟨⟨k + n, k + n, i + 1, A8, C8, acc, rfl, hkn, Nat.le_refl _, HA8.out, rfl, rfl, by go_num, by omega, fun h => by omega, fun h => h, hacc, HS1, hRi, hbi⟩, by simp [intOf]; omega⟩
    · obtain rfl : k = L := by omega
      obtain rfl := hkL rfl
      have hEnd : ¬ ((0 : Int) < ((j - j : Nat) : Int)) := by omega
      have HSF := Lib.hid (HS1.out.trans (show acc ++ (sentsR dl fl most ((rnL s.data.toList).drop j)).map (fun rs => (⟨(bytesL rs).toArray⟩ : ByteArray)) = acc by rw [List.drop_of_length_le (by rw [HL.out]; omega), sentsR_nil]; simp))
      have hsz := hv_size s.data.toList j
      have HBL := Lib.hid (HWB.out.trans (hbel.out.mono hwb))
      have hwl := HBL.out.size
      obtain ⟨A2, c2, rfl, hc2, hC2⟩ := Kd.R_reads hR.out
      have HC2 := Lib.hid hC2
      rw [← HSF.out] at HC2
      have hlenS : acc.length = S.length := by rw [HSF.out]
      rw [hlenS]
      have HSX := Lib.hid (sents_call (cd := cd) (cf := cf) s (by omega) HS.out HD.out HF.out hdl hfl HT.out HBL.out)
      obtain ⟨c0, c1, c2', c3, c4⟩ := cells5 (blk_keep H4.out hbel.out)
      clear hC2 HSF HS1 HS hlenS hR
      go_wp2_with fail
      refine HSX.out.mono ?_
      rintro e w4 ⟨v, rfl, hR4, hb4⟩
      obtain ⟨A1, c1', rfl, hc1, hC1⟩ := Kd.R_reads hR4
      have HW4 := Lib.hid (HBL.out.trans (hb4.mono hwl))
      have hw4 := HW4.out.size
      have HC1 := Lib.hid hC1
      have HC3 := Lib.hid (Kd.C_below HC2.out hb4)
      clear hR4 hC1 hb4 HC2 HSX c0 c1 c2' c3 c4
      go_wp2_with fail
      refine (sameStr_any A2 A1 c2 c1' S S w4 HC3.out HC1.out).mono ?_
      rintro e w5 ⟨rfl, hb5⟩
      have HW5 := Lib.hid (HW4.out.trans (hb5.mono hw4))
      have hw5 := HW5.out.size
      clear hb5
      rw [show decide (S = S) = true from decide_eq_true rfl]
      go_wp2_with fail
      refine (HP.out w5).mono ?_
      rintro e w6 ⟨rfl, hb6⟩
      have HW6 := Lib.hid (HW5.out.trans (hb6.mono hw5))
      clear hb6
      go_wp2_with fail
      go_ret
      exact ⟨by simp, HW6.out⟩

theorem tabs_pieces {W : World} (h : laidMetH Tryd.prog Rows.fnScanPiecesRow.laid W) : Lib.Utf8Tabs 1 2 W := by
  rw [MakeChecks.laidMetH_plain _ _ _ (by kernel_rfl)] at h
  exact tabs_of h (.tail _ (.tail _ (.head _))) (.head _)
end Go.Proofs.YtaniafohcaiedaaDoor.Sn
