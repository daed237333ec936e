/-
  The walk of laws.splits, and of impl.Scan and impl.Sentences without data.
-/
import Derived.Test.YtaniafohcaiedaaDoorSh
set_option linter.unusedVariables false
set_option linter.unusedSimpArgs false
namespace Go.Proofs.YtaniafohcaiedaaDoor.Sn
open Go.RowKit Go.Proofs.YtaniafohcaiedaaDoor.K Go.Proofs.YtaniafohcaiedaaDoorW.PrintWords

set_option maxHeartbeats 1000000 in
theorem valid_any (r : Int) (w : World) : Calls Tryd.prog 56 #[.int .i32 r] w (BoolQ w) := by
  go_enter Tryd.func56, Tryd.ntmps56
  go_wp2_with fail
  all_goals
    go_ret
    exact ⟨_, rfl, rfl⟩

theorem hid_alloc {B : Nat} {w0 w : World} (hB : B ≤ w0.heap.size) (h : Hid (Below B w0 w)) (o : Obj) : Hid (Below B w0 (w.alloc o)) := Lib.hid (h.out.alloc (Nat.le_trans hB h.out.size) o)
def SplOk (dl fl : List Int) (most : Int) : Prop := dl.length ≤ 20 ∧ fl.length ≤ 20 ∧ most ≤ 1048576 ∧ -1048576 ≤ most
theorem own_none (w0 : World) (base : Nat) {W : World} (hb : base ≤ W.heap.size) : (W.alloc (.cells #[] 21)).ownsRow base 21 1 (.slice (some ⟨W.heap.size, 0, none⟩) 0 0) ([] : List Int).length (nums .i32 []) := World.ownsRow_made W #[] 0 hb (Nat.zero_le _) (by simp)
set_option maxHeartbeats 4000000 in
set_option maxRecDepth 5000 in
theorem splits_any (D F : Option Addr) (cd cf : Nat) (sk db : Bool) (most : Int) (dl fl : List Int) (w : World) (hD : (Kd.int .i32).C w D dl.length dl) (hF : (Kd.int .i32).C w F fl.length fl) (hdl : dl.length ≤ 2147483647) (hfl : fl.length ≤ 2147483647) :
    Calls Tryd.prog 29 #[splV D F dl.length cd fl.length cf sk db most] w (BoolIf (SplOk dl fl most) w) := by
  have HD := Lib.hid hD
  have HF := Lib.hid hF
  clear hD hF
  show Calls _ _ #[.agg #[.slice D dl.length cd, .slice F fl.length cf, .bool sk, .bool db, .int .i64 most]] w _
  go_enter Tryd.func29, Tryd.ntmps29
  have hg0 := heap_new w (.cells #[.slice D dl.length cd, .slice F fl.length cf, .bool sk, .bool db, .int .i64 most] 50)
  have hbw : Below w.heap.size w (w.alloc (.cells #[.slice D dl.length cd, .slice F fl.length cf, .bool sk, .bool db, .int .i64 most] 50)) := below_alloc (Below.refl _ _) _
  go_upto_region 1 with fail
  generalize hW0 : w.alloc (.cells #[.slice D dl.length cd, .slice F fl.length cf, .bool sk, .bool db, .int .i64 most] 50) = w0 at hg0 hbw ⊢
  have hz0 : w.heap.size < w0.heap.size := lt_of_heap hg0
  have H0 := Lib.hid hg0
  have HBW := Lib.hid hbw
  have HD0 := Lib.hid (Kd.C_below HD.out hbw)
  have HF0 := Lib.hid (Kd.C_below HF.out hbw)
  obtain ⟨c0, c1, c2, c3, c4⟩ := cells5 hg0
  have HS := Lib.hid (Below.refl w0.heap.size w0)
  clear hg0 hbw hW0 HD HF
  go_cut [11, 12, 13] (fun s11 s12 s13 wx => ∃ (A : Option Addr) (c : Nat), s11 = .slice A (dl ++ fl).length c ∧ s12 = .int .i64 ((dl ++ fl).length : Nat) ∧ s13 = .int .i64 0 ∧ Hid ((Kd.int .i32).C wx A (dl ++ fl).length (dl ++ fl)) ∧ Hid (Below w0.heap.size w0 wx))
  case first =>
    go_region_held3 (fun w' => w'.cell? ⟨w.heap.size, 0, none⟩ = some (.slice D dl.length cd) ∧ w'.cell? ⟨w.heap.size, 1, none⟩ = some (.slice F fl.length cf) ∧ w'.cell? ⟨w.heap.size, 2, none⟩ = some (.bool sk) ∧ w'.cell? ⟨w.heap.size, 3, none⟩ = some (.bool db) ∧ w'.cell? ⟨w.heap.size, 4, none⟩ = some (.int .i64 most) ∧ Hid (Below w0.heap.size w0 w'))
      (first
        | (go_split_ands; refine keepB5 hz0 H0.out ?_; (first
          | with_reducible assumption
          | (repeat' (first | with_reducible assumption | with_reducible exact HS | refine hid_drew ?_ | refine hid_alloc (Nat.le_refl _) ?_ _)))))
      (first
        | (go_split_ands; refine rows_step (w0 := w0) w0.heap.size (by rfl) (.tmp 5) (.tmp 7) 46 21 .i32 4 (by rfl) Tryd.underlying46 (by kernel_rfl) (by decide) _ [] dl D dl.length cd (by rfl) (by rfl) (own_none w0 _ (szof (by assumption))) (Kd.C_below HD0.out (Hid.out (by assumption))) (Hid.out (by assumption)) (szof (by assumption)) (by simp; omega) ?_; intro v1 w1 ho1 hbq; have HO1 := Lib.hid ho1; have HBq := Lib.hid hbq; clear ho1 hbq)
        | (go_split_ands; refine rows_step (w0 := w0) w0.heap.size (by rfl) (.tmp 8) (.tmp 10) 46 21 .i32 4 (by rfl) Tryd.underlying46 (by kernel_rfl) (by decide) _ ([] ++ dl) fl F fl.length cf (by rfl) (by rfl) HO1.out (Kd.C_below HF0.out (Hid.out (by assumption))) (Hid.out (by assumption)) (szof (by assumption)) (by simp; omega) ?_; intro v2 w2 ho2 hbq; have HO2 := Lib.hid ho2; have HBq := Lib.hid hbq; obtain ⟨A2, c2, hv2⟩ := own_slice ho2; subst hv2; clear ho2 hbq))
    go_wp2_with fail
    go_meet
    case rel =>
      refine ⟨A2, c2, rfl, by simp, rfl, Lib.hid ?_, by assumption⟩
      have h1 := HO2.out
      rw [List.nil_append] at h1
      obtain ⟨A', c', he, hr⟩ := own_reads h1
      cases he
      exact Kd.C_of_reads (enc := Value.int .i32) (d := (0 : Int)) (h1 := fun _ => rfl) hr
  case rest =>
    obtain ⟨A, c, rfl, rfl, rfl, HC, HB⟩ := hcut
    clear HD0 HF0 HS c0 c1 c2 c3 c4
    obtain ⟨c0, c1, c2, c3, c4⟩ := cells5 (blk_keep H0.out HB.out)
    have HBL := Lib.hid (HBW.out.trans (HB.out.mono (Nat.le_of_lt hz0)))
    have hlm : (dl ++ fl).length ≤ 4294967294 := by rw [List.length_append]; omega
    generalize dl ++ fl = xs at HC hlm ⊢
    have hdm : ((dl.length : Nat) : Int) ≤ 2147483647 := by omega
    go_wp2_with fail
    go_loopw [13] (fun i wi => ∃ k : Nat, k ≤ xs.length ∧ i = .int .i64 k ∧ wi = wc) (fun i _ => xs.length - (intOf i).toNat)
    case atStart => exact ⟨0, Nat.zero_le _, rfl, rfl⟩
    case round =>
      obtain ⟨k, hk, rfl, rfl⟩ := hrel
      by_cases hlt : k < xs.length
      · obtain ⟨ad, rfl, hs⟩ := runes_at HC.out k hlt
        generalize xs[k] = r at hs
        go_wp2_with fail
        refine (white_any r _).mono ?_
        rintro e w1 ⟨b, rfl, rfl⟩
        cases b
        · by_cases hff : r = 65533
          · have ht : (r == 65533) = true := by simpa using hff
            clear hff
            go_wp2_with fail
            go_ret
            exact ⟨false, by simp, by simp, HBL.out⟩
          · have ht : (r == 65533) = false := by simpa using hff
            clear hff
            go_wp2_with fail
            refine (valid_any r _).mono ?_
            rintro e w1 ⟨b, rfl, rfl⟩
            cases b
            · go_wp2_with fail
              go_ret
              exact ⟨false, by simp, by simp, HBL.out⟩
            · go_wp2_with fail
              exact ⟨⟨k + 1, by omega, by go_num, trivial⟩, by simp [intOf]; omega⟩
        · go_wp2_with fail
          go_ret
          exact ⟨false, by simp, by simp, HBL.out⟩
      · obtain rfl : k = xs.length := by omega
        by_cases h1 : 20 < dl.length
        · go_wp2_with fail
          go_ret
          exact ⟨false, by simp, by simp, HBL.out⟩
        by_cases h2 : 20 < fl.length
        · go_wp2_with fail
          go_ret
          exact ⟨false, by simp, by simp, HBL.out⟩
        by_cases h3 : 1048576 < most
        · go_wp2_with fail
          go_ret
          exact ⟨false, by simp, by simp, HBL.out⟩
        by_cases h4 : most < -1048576
        · go_wp2_with fail
          go_ret
          exact ⟨false, by simp; omega, by simp, HBL.out⟩
        go_wp2_with fail
        go_ret
        exact ⟨true, by simp, fun _ => ⟨by omega, by omega, by omega, by omega⟩, HBL.out⟩

set_option maxHeartbeats 1000000 in
set_option maxRecDepth 5000 in
theorem scan_none (v : Value) (x0 x1 x2 x3 x4 : Value) (hv : v = .agg #[x0, x1, x2, x3, x4]) (eof : Bool) (w : World) :
    Calls Tryd.prog 54 #[v, .slice none 0 0, .bool eof] w fun e w' => e = .returned (.tuple #[.int .i64 0, .slice none 0 0, .nilIface]) ∧ Below w.heap.size w w' := by
  subst hv
  go_enter Tryd.func54, Tryd.ntmps54
  cases eof
  · go_wp2_with fail
    obtain ⟨wb, hwb⟩ : ∃ wb, w.alloc (.cells #[x0, x1, x2, x3, x4] 104) = wb := ⟨_, rfl⟩
    have HBW := Lib.hid (show Below w.heap.size w wb from hwb ▸ below_alloc (Below.refl _ _) _)
    rw [hwb]
    clear hwb
    go_loopw [9, 10, 14] (fun a b c wr => a = .int .i64 0 ∧ b = .int .i64 0 ∧ c = .int .i64 0 ∧ wr = wb) (fun _ _ _ _ => 0)
    case atStart => exact ⟨rfl, rfl, rfl, rfl⟩
    case round =>
      obtain ⟨rfl, rfl, rfl, rfl⟩ := hrel
      go_wp2_with fail
      go_loopw [21] (fun i wi => i = .int .i64 0 ∧ wi = wr) (fun _ _ => 0)
      case atStart => exact ⟨rfl, rfl⟩
      case round =>
        obtain ⟨rfl, rfl⟩ := hrel
        go_wp2_with fail
        go_ret3
        exact ⟨rfl, HBW.out⟩
  · go_wp2_with fail
    go_ret3
    exact ⟨rfl, (Below.refl _ _).alloc (Nat.le_refl _) _⟩

set_option maxHeartbeats 400000 in
theorem clone_none (w : World) : Calls Tryd.prog 57 #[.slice none 0 0] w fun e w' => e = .returned (.slice none 0 0) ∧ w' = w := by
  have q := fun (w : World) (a : Option Addr) (n c n' c' : Nat) => Lib.run_eql_slice_nil (P := Tryd.prog) w _ _ a n c n' c' Tryd.underlying25
  go_enter Tryd.func57, Tryd.ntmps57
  go_wp2_with fail
  go_ret
  exact ⟨rfl, rfl⟩
def Scan0 (w : World) (e : Ending) (w' : World) : Prop := e = .returned (.tuple #[.int .i64 0, .slice none 0 0, .bool false, .slice none 0 0]) ∧ Below w.heap.size w w'
set_option maxHeartbeats 2000000 in
set_option maxRecDepth 5000 in
theorem scan0_any (D F : Option Addr) (cd cf : Nat) (sk db : Bool) (most : Int) (dl fl : List Int) (eof : Bool) (w : World) (hD : (Kd.int .i32).C w D dl.length dl) (hF : (Kd.int .i32).C w F fl.length fl) (hdl : dl.length ≤ 2147483647) (hfl : fl.length ≤ 2147483647) :
    Calls Tryd.prog 31 #[splV D F dl.length cd fl.length cf sk db most, .slice none 0 0, .bool eof] w (Scan0 w) := by
  have HD := Lib.hid hD
  have HF := Lib.hid hF
  clear hD hF
  have qn := fun (w : World) (a : Option Addr) (n c : Nat) => run_neq_slice_nil (P := Tryd.prog) w 25 5 a n c Tryd.underlying25
  show Calls _ _ #[.agg #[.slice D dl.length cd, .slice F fl.length cf, .bool sk, .bool db, .int .i64 most], .slice none 0 0, .bool eof] w _
  go_enter Tryd.func31, Tryd.ntmps31
  go_wp2_with fail
  refine (clone_none _).mono ?_
  rintro e w1 ⟨rfl, rfl⟩
  go_wp2_with fail
  refine (splitterOf_any D F cd cf sk db most dl fl _ (Kd.C_alloc HD.out _) (Kd.C_alloc HF.out _) hdl hfl).mono ?_
  rintro e w2 ⟨D', F', cd', cf', rfl, _, _, hb2⟩
  have HL2 := Lib.hid (((Below.refl _ w).alloc (Nat.le_refl _) _).trans (hb2.mono (by simp)))
  have hz2 := HL2.out.size
  clear hb2
  unfold splV
  go_wp2_with fail
  refine (scan_none _ _ _ _ _ _ rfl eof _).mono ?_
  rintro e w3 ⟨rfl, hb3⟩
  have HL3 := Lib.hid (HL2.out.trans (hb3.mono hz2))
  clear hb3
  go_wp2_with fail
  refine (clone_none _).mono ?_
  rintro e w4 ⟨rfl, rfl⟩
  go_wp2_with fail
  exact bodyPost_ret (v := .tuple #[.int .i64 0, .slice none 0 0, .bool false, .slice none 0 0]) (by simp [results, Tryd.results31, go_sem]) rfl ⟨rfl, HL3.out⟩
set_option maxHeartbeats 2000000 in
set_option maxRecDepth 5000 in
theorem sentences0_any (D F : Option Addr) (nd cd nf cf : Nat) (sk db : Bool) (most : Int) (w : World) :
    Calls Tryd.prog 27 #[splV D F nd cd nf cf sk db most, .string ⟨#[]⟩] w fun e w' => e = .returned (.slice none 0 0) ∧ Below w.heap.size w w' := by
  have kb := fun W => print_bytes (P := Tryd.prog) 9 25 5 Tryd.underlying9 Tryd.underlying25 Tryd.underlying5 ⟨#[]⟩ W
  show Calls _ _ #[.agg #[.slice D nd cd, .slice F nf cf, .bool sk, .bool db, .int .i64 most], .string ⟨#[]⟩] w _
  go_enter Tryd.func27, Tryd.ntmps27
  go_wp2_with fail
  have HBW := Lib.hid (bytes_below (below_alloc (Below.refl w.heap.size w) (.cells #[.slice D nd cd, .slice F nf cf, .bool sk, .bool db, .int .i64 most] 50)) (by simp) 5 ⟨#[]⟩)
  generalize Lib.bytesWorld _ _ _ = wb at HBW ⊢
  clear kb
  go_loopw [5, 6] (fun b v wr => ∃ A c, b = .slice A 0 c ∧ v = .slice none 0 0 ∧ wr = wb) (fun _ _ _ => 0)
  case atStart => exact ⟨_, _, rfl, rfl, rfl⟩
  case round =>
    obtain ⟨A, c, rfl, rfl, rfl⟩ := hrel
    go_wp2_with fail
    go_ret
    exact ⟨rfl, HBW.out⟩

set_option maxHeartbeats 2000000 in
set_option maxRecDepth 5000 in
theorem se_walk (D F : Option Addr) (cd cf : Nat) (sk db : Bool) (most : Int) (dl fl : List Int) (eof : Bool) (w : World) (hD : (Kd.int .i32).C w D dl.length dl) (hF : (Kd.int .i32).C w F fl.length fl) :
    Calls Tryd.prog 9 #[splV D F dl.length cd fl.length cf sk db most, .bool eof] w fun e w' => e = .returned (.bool true) ∧ Below w.heap.size w w' := by
  have hdm := hD.2.1
  have hfm := hF.2.1
  have HD := Lib.hid hD
  have HF := Lib.hid hF
  clear hD hF
  have HP := Lib.hid parts_any
  have HZ := Lib.hid (fun W => zzFits18_any D F dl.length cd fl.length cf sk db most W hdm hfm)
  show Calls _ _ #[.agg #[.slice D dl.length cd, .slice F fl.length cf, .bool sk, .bool db, .int .i64 most], .bool eof] w _
  go_enter Tryd.func9, Tryd.ntmps9
  have hg0 := heap_new w (.cells #[.slice D dl.length cd, .slice F fl.length cf, .bool sk, .bool db, .int .i64 most] 50)
  have hbw : Below w.heap.size w (w.alloc (.cells #[.slice D dl.length cd, .slice F fl.length cf, .bool sk, .bool db, .int .i64 most] 50)) := below_alloc (Below.refl _ _) _
  go_wp2_with fail
  generalize hW0 : w.alloc (.cells #[.slice D dl.length cd, .slice F fl.length cf, .bool sk, .bool db, .int .i64 most] 50) = w0 at hg0 hbw ⊢
  have hz0 : w.heap.size < w0.heap.size := lt_of_heap hg0
  have H0 := Lib.hid hg0
  have HBW := Lib.hid hbw
  clear hW0 hg0 hbw
  refine (HZ.out w0).mono ?_
  rintro e w1 ⟨b, rfl, hb, hb1⟩
  have HB := Lib.hid hb
  have HL1 := Lib.hid hb1
  have hz1 := hb1.size
  have HW1 := Lib.hid (HBW.out.trans (hb1.mono (Nat.le_of_lt hz0)))
  clear hb hb1
  cases b
  · go_wp2_with fail
    go_ret
    exact ⟨by simp, HW1.out⟩
  obtain ⟨hdl, hfl⟩ := HB.out rfl
  obtain ⟨c0, c1, c2, c3, c4⟩ := cells5 (blk_keep H0.out HL1.out)
  have hw1 := HW1.out.size
  go_wp2_with fail
  refine (splits_any D F cd cf sk db most dl fl w1 (Kd.C_below HD.out HW1.out) (Kd.C_below HF.out HW1.out) hdl hfl).mono ?_
  rintro e w2 ⟨b, rfl, _, hb2⟩
  have HL2 := Lib.hid (HL1.out.trans (hb2.mono hz1))
  have HW2 := Lib.hid (HW1.out.trans (hb2.mono hw1))
  have hz2 := HL2.out.size
  have hw2 := HW2.out.size
  clear hb2 c0 c1 c2 c3 c4
  obtain ⟨c0, c1, c2, c3, c4⟩ := cells5 (blk_keep H0.out HL2.out)
  cases b
  · go_wp2_with fail
    refine (HP.out w2).mono ?_
    rintro e w3 ⟨rfl, hb3⟩
    have HW3 := Lib.hid (HW2.out.trans (hb3.mono hw2))
    clear hb3
    go_wp2_with fail
    go_ret
    exact ⟨by simp, HW3.out⟩
  go_wp2_with fail
  refine (scan0_any D F cd cf sk db most dl fl eof w2 (Kd.C_below HD.out HW2.out) (Kd.C_below HF.out HW2.out) hdl hfl).mono ?_
  rintro e w3 ⟨rfl, hb3⟩
  have HL3 := Lib.hid (HL2.out.trans (hb3.mono hz2))
  have HW3 := Lib.hid (HW2.out.trans (hb3.mono hw2))
  have hz3 := HL3.out.size
  have hw3 := HW3.out.size
  clear hb3 c0 c1 c2 c3 c4
  obtain ⟨c0, c1, c2, c3, c4⟩ := cells5 (blk_keep H0.out HL3.out)
  go_wp2_with fail
  refine (sentences0_any D F dl.length cd fl.length cf sk db most w3).mono ?_
  rintro e w4 ⟨rfl, hb4⟩
  have HW4 := Lib.hid (HW3.out.trans (hb4.mono hw3))
  have hw4 := HW4.out.size
  clear hb4 c0 c1 c2 c3 c4
  go_wp2_with fail
  refine (HP.out w4).mono ?_
  rintro e w5 ⟨rfl, hb5⟩
  have HW5 := Lib.hid (HW4.out.trans (hb5.mono hw4))
  clear hb5
  go_wp2_with fail
  go_ret
  exact ⟨by simp, HW5.out⟩
end Go.Proofs.YtaniafohcaiedaaDoor.Sn
