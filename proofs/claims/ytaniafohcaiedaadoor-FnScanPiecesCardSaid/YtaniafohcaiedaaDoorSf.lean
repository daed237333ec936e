/-
  The walk of ScanSentences where the data's end is not known.
-/
import Derived.Test.YtaniafohcaiedaaDoorSc
set_option linter.unusedVariables false
set_option linter.unusedSimpArgs false
namespace Go.Proofs.YtaniafohcaiedaaDoor.Sn
open Go.RowKit Go.Proofs.YtaniafohcaiedaaDoor.K Go.Proofs.YtaniafohcaiedaaDoorW.PrintWords

set_option maxHeartbeats 8000000 in
set_option maxRecDepth 20000 in
theorem scan_false (D F : Option Addr) (cd cf : Nat) (most : Int) (dl fl : List Int) (ad : Addr) (n c : Nat) (dec : Nat → Int × Nat) (w : World) (hD : (Kd.int .i32).C w D dl.length dl) (hF : (Kd.int .i32).C w F fl.length fl)
    (hn : 0 < n) (hnc : n ≤ c) (hc : c ≤ 9223372036854775807) (hdec : Decodes w ad n c dec) :
    Calls Tryd.prog 54 #[splV D F dl.length cd fl.length cf false false most, .slice (some ad) n c, .bool false] w (ScanRet ad c false (g1 dl fl most dec n 0 0) w) := by
  have HD := Lib.hid hD
  have HF := Lib.hid hF
  have HDEC := Lib.hid hdec
  clear hD hF hdec
  show Calls _ _ #[.agg #[.slice D dl.length cd, .slice F fl.length cf, .bool false, .bool false, .int .i64 most], .slice (some ad) n c, .bool false] w _
  obtain ⟨R, hR⟩ : ∃ R, g1 dl fl most dec n 0 0 = R := ⟨_, rfl⟩
  rw [hR]
  have HR := Lib.hid hR
  clear hR
  have hdm := HD.out.2.1
  have hfm := HF.out.2.1
  have hn0 : ((n : Int) == 0) = false := by simp; omega
  go_enter Tryd.func54, Tryd.ntmps54
  have h0 := heap_new w (.cells #[.slice D dl.length cd, .slice F fl.length cf, .bool false, .bool false, .int .i64 most] 104)
  have hbw : Below w.heap.size w (w.alloc (.cells #[.slice D dl.length cd, .slice F fl.length cf, .bool false, .bool false, .int .i64 most] 104)) := below_alloc (Below.refl _ _) _
  · skip
    go_wp2_with fail
    generalize hW0 : w.alloc (.cells #[.slice D dl.length cd, .slice F fl.length cf, .bool false, .bool false, .int .i64 most] 104) = w0 at h0 hbw ⊢
    have H0 := Lib.hid h0
    have HBW := Lib.hid hbw
    have hsz0 : w.heap.size < w0.heap.size := lt_of_heap h0
    have HW0 := Lib.hid hW0
    clear h0 hbw hW0
    go_loopw [9, 10, 11, 14] (fun st en rn pp wr => ∃ p rc : Nat, st = .int .i64 0 ∧ en = .int .i64 p ∧ rn = .int .i64 rc ∧ pp = .int .i64 p ∧ p ≤ n ∧ rc ≤ p ∧ Hid (g1 dl fl most dec n p rc = R) ∧ Hid (Below w0.heap.size w0 wr)) (fun _ _ _ pp _ => n - (intOf pp).toNat)
    case atStart => exact ⟨0, 0, rfl, rfl, rfl, rfl, Nat.zero_le _, Nat.le_refl _, HR, Lib.hid (Below.refl _ _)⟩
    case round =>
      clear HR
      obtain ⟨p, rc, rfl, rfl, rfl, rfl, hp, hrc, HR, hbel⟩ := hrel
      obtain ⟨c0, c1, c2, c3, c4⟩ := cells5 (blk_keep H0.out hbel.out)
      have hzr := hbel.out.size
      by_cases hlt : p < n
      · obtain ⟨hk0, hkn, hcall⟩ := HDEC.out p hlt
        have HG := Lib.hid (HR.out.symm.trans (show g1 dl fl most dec n p rc = _ from by rw [g1, dif_pos ⟨hlt, hk0⟩]))
        obtain ⟨r, hr⟩ : ∃ r, (dec p).1 = r := ⟨_, rfl⟩
        obtain ⟨k, hk⟩ : ∃ k, (dec p).2 = k := ⟨_, rfl⟩
        rw [hr, hk] at HG
        rw [hk] at hk0 hkn
        rw [hr, hk] at hcall
        clear hr hk
        have HC := Lib.hid (hcall wr (HBW.out.trans (hbel.out.mono (Nat.le_of_lt hsz0))))
        clear hcall
        go_wp2_with fail
        refine HC.out.mono ?_
        rintro e w1 ⟨rfl, hb1⟩
        have HL1 := Lib.hid (hbel.out.trans (hb1.mono hzr))
        clear c0 c1 c2 c3 c4 hb1
        obtain ⟨c0, c1, c2, c3, c4⟩ := cells5 (blk_keep H0.out HL1.out)
        have hqe : ((p : Int) != (p : Int)) = false := by simp
        go_wp2_with fail
        refine (isDelim_any D F cd fl.length cf false false most r dl w1 (Kd.C_below HD.out (HBW.out.trans (HL1.out.mono (Nat.le_of_lt hsz0))))).mono ?_
        rintro e w2 ⟨rfl, hb2⟩
        have HLq := Lib.hid (HL1.out.trans (hb2.mono HL1.out.size))
        clear c0 c1 c2 c3 c4 hb2
        obtain ⟨c0, c1, c2, c3, c4⟩ := cells5 (blk_keep H0.out HLq.out)
        generalize memB r dl = bm at HG
        obtain ⟨E, hE⟩ : ∃ E, g2 dl fl dec n (p + k) = E := ⟨_, rfl⟩
        rw [hE] at HG
        have HE := Lib.hid hE
        clear hE
        cases bm
        · by_cases hmo : ((rc + 1 : Nat) : Int) < most
          · have HG2 := Lib.hid (HG.out.trans (if_pos (by simp only [Bool.not_false, Bool.true_and]; exact decide_eq_true hmo)))
            have hmo' : (rc : Int) + 1 < most := by omega
            clear hmo HG
            go_wp2_with fail
            exact ⟨⟨p + k, rc + 1, rfl, by go_num, by go_num, by go_num, hkn, by omega, Lib.hid HG2.out.symm, HLq⟩, by simp [intOf]; omega⟩
          · have HG2 := Lib.hid (HG.out.trans (if_neg (by simp only [Bool.not_false, Bool.true_and]; simpa using hmo)))
            have hmo' : ¬ (rc : Int) + 1 < most := by omega
            clear hmo HG
            have hzz := HLq.out.size
            go_wp2_with fail
            go_loopw [10, 14] (fun en pp wi => ∃ p' : Nat, en = .int .i64 p' ∧ pp = .int .i64 p' ∧ p' ≤ n ∧ Hid (g2 dl fl dec n p' = E) ∧ Hid (Below w0.heap.size w0 wi)) (fun _ pp _ => n - (intOf pp).toNat)
            case atStart => exact ⟨p + k, by go_num, by go_num, hkn, HE, HLq⟩
            case round =>
              clear c0 c1 c2 c3 c4 HE
              obtain ⟨p', rfl, rfl, hp', HE, hbi⟩ := hrel
              obtain ⟨c0, c1, c2, c3, c4⟩ := cells5 (blk_keep H0.out hbi.out)
              have hzi := hbi.out.size
              by_cases hlt' : p' < n
              · obtain ⟨hk0', hkn', hcall'⟩ := HDEC.out p' hlt'
                have HG' := Lib.hid (HE.out.symm.trans (show g2 dl fl dec n p' = _ from by rw [g2, dif_pos ⟨hlt', hk0'⟩]))
                obtain ⟨r', hr'⟩ : ∃ r, (dec p').1 = r := ⟨_, rfl⟩
                obtain ⟨k', hk'⟩ : ∃ k, (dec p').2 = k := ⟨_, rfl⟩
                rw [hr', hk'] at HG'
                rw [hk'] at hk0' hkn'
                rw [hr', hk'] at hcall'
                clear hr' hk'
                have HC' := Lib.hid (hcall' wr (HBW.out.trans (hbi.out.mono (Nat.le_of_lt hsz0))))
                clear hcall'
                go_wp2_with fail
                refine HC'.out.mono ?_
                rintro e w3 ⟨rfl, hb3⟩
                have HL3 := Lib.hid (hbi.out.trans (hb3.mono hzi))
                clear c0 c1 c2 c3 c4 hb3
                obtain ⟨c0, c1, c2, c3, c4⟩ := cells5 (blk_keep H0.out HL3.out)
                have hqe' : ((p' : Int) != (p' : Int)) = false := by simp
                go_wp2_with fail
                refine (isDelim_any D F cd fl.length cf false false most r' dl w3 (Kd.C_below HD.out (HBW.out.trans (HL3.out.mono (Nat.le_of_lt hsz0))))).mono ?_
                rintro e w4 ⟨rfl, hb4⟩
                have HL4 := Lib.hid (HL3.out.trans (hb4.mono HL3.out.size))
                clear c0 c1 c2 c3 c4 hb4
                obtain ⟨c0, c1, c2, c3, c4⟩ := cells5 (blk_keep H0.out HL4.out)
                generalize memB r' dl = bm' at HG'
                cases bm'
                · go_wp2_with fail
                  refine (isFollower_any D F dl.length cd cf false false most r' fl w4 (Kd.C_below HF.out (HBW.out.trans (HL4.out.mono (Nat.le_of_lt hsz0))))).mono ?_
                  rintro e w5 ⟨rfl, hb5⟩
                  have HL5 := Lib.hid (HL4.out.trans (hb5.mono HL4.out.size))
                  clear c0 c1 c2 c3 c4 hb5
                  obtain ⟨c0, c1, c2, c3, c4⟩ := cells5 (blk_keep H0.out HL5.out)
                  generalize memB r' fl = bf' at HG'
                  cases bf'
                  · have HX := Lib.hid (HG'.out.trans (if_neg (by simp)))
                    clear HG' HE
                    have hzx := HL5.out.size
                    go_wp2_with fail
                    go_quiet (fail)
                    go_wp2_with fail
                    go_ret3
                    exact mk_scan HG2.out HX.out (HBW.out.trans (HL5.out.mono (Nat.le_of_lt hsz0))) _
                  · have HX := Lib.hid (HG'.out.trans (if_pos (by simp)))
                    clear HG' HE
                    go_wp2_with fail
                    exact ⟨⟨p' + k', by go_num, by go_num, hkn', Lib.hid HX.out.symm, HL5⟩, by simp [intOf]; omega⟩
                · have HX := Lib.hid (HG'.out.trans (if_pos (by simp)))
                  clear HG' HE
                  go_wp2_with fail
                  exact ⟨⟨p' + k', by go_num, by go_num, hkn', Lib.hid HX.out.symm, HL4⟩, by simp [intOf]; omega⟩
              · obtain rfl : p' = n := by omega
                have HX := Lib.hid (HE.out.symm.trans (show g2 dl fl dec p' p' = p' from by rw [g2, dif_neg (by omega)]))
                clear HE
                go_wp2_with fail
                go_quiet (fail)
                go_wp2_with fail
                go_ret3
                exact mk_scan HG2.out HX.out (HBW.out.trans (hbi.out.mono (Nat.le_of_lt hsz0))) _
        · have HG2 := Lib.hid (HG.out.trans (if_neg (by simp)))
          clear HG
          have hzz := HLq.out.size
          go_wp2_with fail
          go_loopw [10, 14] (fun en pp wi => ∃ p' : Nat, en = .int .i64 p' ∧ pp = .int .i64 p' ∧ p' ≤ n ∧ Hid (g2 dl fl dec n p' = E) ∧ Hid (Below w0.heap.size w0 wi)) (fun _ pp _ => n - (intOf pp).toNat)
          case atStart => exact ⟨p + k, by go_num, by go_num, hkn, HE, HLq⟩
          case round =>
            clear c0 c1 c2 c3 c4 HE
            obtain ⟨p', rfl, rfl, hp', HE, hbi⟩ := hrel
            obtain ⟨c0, c1, c2, c3, c4⟩ := cells5 (blk_keep H0.out hbi.out)
            have hzi := hbi.out.size
            by_cases hlt' : p' < n
            · obtain ⟨hk0', hkn', hcall'⟩ := HDEC.out p' hlt'
              have HG' := Lib.hid (HE.out.symm.trans (show g2 dl fl dec n p' = _ from by rw [g2, dif_pos ⟨hlt', hk0'⟩]))
              obtain ⟨r', hr'⟩ : ∃ r, (dec p').1 = r := ⟨_, rfl⟩
              obtain ⟨k', hk'⟩ : ∃ k, (dec p').2 = k := ⟨_, rfl⟩
              rw [hr', hk'] at HG'
              rw [hk'] at hk0' hkn'
              rw [hr', hk'] at hcall'
              clear hr' hk'
              have HC' := Lib.hid (hcall' wr (HBW.out.trans (hbi.out.mono (Nat.le_of_lt hsz0))))
              clear hcall'
              go_wp2_with fail
              refine HC'.out.mono ?_
              rintro e w3 ⟨rfl, hb3⟩
              have HL3 := Lib.hid (hbi.out.trans (hb3.mono hzi))
              clear c0 c1 c2 c3 c4 hb3
              obtain ⟨c0, c1, c2, c3, c4⟩ := cells5 (blk_keep H0.out HL3.out)
              have hqe' : ((p' : Int) != (p' : Int)) = false := by simp
              go_wp2_with fail
              refine (isDelim_any D F cd fl.length cf false false most r' dl w3 (Kd.C_below HD.out (HBW.out.trans (HL3.out.mono (Nat.le_of_lt hsz0))))).mono ?_
              rintro e w4 ⟨rfl, hb4⟩
              have HL4 := Lib.hid (HL3.out.trans (hb4.mono HL3.out.size))
              clear c0 c1 c2 c3 c4 hb4
              obtain ⟨c0, c1, c2, c3, c4⟩ := cells5 (blk_keep H0.out HL4.out)
              generalize memB r' dl = bm' at HG'
              cases bm'
              · go_wp2_with fail
                refine (isFollower_any D F dl.length cd cf false false most r' fl w4 (Kd.C_below HF.out (HBW.out.trans (HL4.out.mono (Nat.le_of_lt hsz0))))).mono ?_
                rintro e w5 ⟨rfl, hb5⟩
                have HL5 := Lib.hid (HL4.out.trans (hb5.mono HL4.out.size))
                clear c0 c1 c2 c3 c4 hb5
                obtain ⟨c0, c1, c2, c3, c4⟩ := cells5 (blk_keep H0.out HL5.out)
                generalize memB r' fl = bf' at HG'
                cases bf'
                · have HX := Lib.hid (HG'.out.trans (if_neg (by simp)))
                  clear HG' HE
                  have hzx := HL5.out.size
                  go_wp2_with fail
                  go_quiet (fail)
                  go_wp2_with fail
                  go_ret3
                  exact mk_scan HG2.out HX.out (HBW.out.trans (HL5.out.mono (Nat.le_of_lt hsz0))) _
                · have HX := Lib.hid (HG'.out.trans (if_pos (by simp)))
                  clear HG' HE
                  go_wp2_with fail
                  exact ⟨⟨p' + k', by go_num, by go_num, hkn', Lib.hid HX.out.symm, HL5⟩, by simp [intOf]; omega⟩
              · have HX := Lib.hid (HG'.out.trans (if_pos (by simp)))
                clear HG' HE
                go_wp2_with fail
                exact ⟨⟨p' + k', by go_num, by go_num, hkn', Lib.hid HX.out.symm, HL4⟩, by simp [intOf]; omega⟩
            · obtain rfl : p' = n := by omega
              have HX := Lib.hid (HE.out.symm.trans (show g2 dl fl dec p' p' = p' from by rw [g2, dif_neg (by omega)]))
              clear HE
              go_wp2_with fail
              go_quiet (fail)
              go_wp2_with fail
              go_ret3
              exact mk_scan HG2.out HX.out (HBW.out.trans (hbi.out.mono (Nat.le_of_lt hsz0))) _
      · obtain rfl : p = n := by omega
        have HG := Lib.hid (HR.out.symm.trans (show g1 dl fl most dec p p rc = (p, false) from by rw [g1, dif_neg (by omega)]))
        have hzr' := HBW.out.trans (hbel.out.mono (Nat.le_of_lt hsz0))
        have HZ := Lib.hid hzr'
        clear hzr'
        go_wp2_with fail
        go_loopw [21] (fun i wi => i = .int .i64 p ∧ wi = wr) (fun _ _ => 0)
        case atStart => exact ⟨rfl, rfl⟩
        case round =>
          obtain ⟨rfl, rfl⟩ := hrel
          go_wp2_with fail
          go_ret3
          exact mk_scan0 HG.out HZ.out
end Go.Proofs.YtaniafohcaiedaaDoor.Sn
