/-
  The guards of splitters and texts: just what they tell.
-/
import Derived.Test.YtaniafohcaiedaaDoorSl
import Derived.Test.YtaniafohcaiedaaDoorSq
set_option linter.unusedVariables false
set_option linter.unusedSimpArgs false
namespace Go.Proofs.YtaniafohcaiedaaDoor.Sn
open Go.RowKit Go.Proofs.YtaniafohcaiedaaDoor.K Go.Proofs.YtaniafohcaiedaaDoorW.PrintWords
open Go.Lib (decodeL encodeRune)

def whiteB (r : Int) : Bool := decide ((9 ≤ r ∧ r ≤ 13) ∨ r = 32 ∨ r = 133 ∨ r = 160 ∨ r = 5760 ∨ (8192 ≤ r ∧ r ≤ 8202) ∨ r = 8232 ∨ r = 8233 ∨ r = 8239 ∨ r = 8287 ∨ r = 12288)
def validB (r : Int) : Bool := decide ((0 ≤ r ∧ r < 55296) ∨ (57343 < r ∧ r ≤ 1114111))
def okR (r : Int) : Bool := !(whiteB r || r == 65533 || !validB r)
def splSz (nd nf : Nat) (most : Int) : Bool := decide (nd ≤ 20 ∧ nf ≤ 20 ∧ most ≤ 1048576 ∧ -1048576 ≤ most)
def splitsB (dl fl : List Int) (most : Int) : Bool := (dl ++ fl).all okR && splSz dl.length fl.length most
theorem all_take {xs : List Int} {k : Nat} (hk : k < xs.length) (h : ∀ r ∈ xs.take k, okR r = true) (h1 : okR xs[k] = true) : ∀ r ∈ xs.take (k + 1), okR r = true := by
  rw [List.take_succ_eq_append_getElem hk]
  intro r hm
  rcases List.mem_append.1 hm with hm | hm
  · exact h r hm
  · rw [List.mem_singleton.1 hm]; exact h1
theorem all_bad {xs : List Int} {k : Nat} (hk : k < xs.length) (h : okR xs[k] = false) : xs.all okR = false := by
  rw [List.all_eq_false]
  exact ⟨_, List.getElem_mem hk, by rw [h]; decide⟩
set_option maxHeartbeats 4000000 in
set_option maxRecDepth 5000 in
theorem white_det (r : Int) (w : World) : Calls Tryd.prog 55 #[.int .i32 r] w fun e w' => e = .returned (.bool (whiteB r)) ∧ w' = w := by
  obtain ⟨B, hB⟩ : ∃ B, whiteB r = B := ⟨_, rfl⟩
  rw [hB]
  rw [whiteB] at hB
  have HB := Lib.hid hB
  clear hB
  go_enter Tryd.func55, Tryd.ntmps55
  go_wp2_with fail
  all_goals
    go_ret
    refine ⟨?_, rfl⟩
    rw [← HB.out]
    congr 2
    simp
    first | omega | (simp_all; done) | (simp_all; omega)
set_option maxHeartbeats 1000000 in
theorem valid_det (r : Int) (w : World) : Calls Tryd.prog 56 #[.int .i32 r] w fun e w' => e = .returned (.bool (validB r)) ∧ w' = w := by
  obtain ⟨B, hB⟩ : ∃ B, validB r = B := ⟨_, rfl⟩
  rw [hB]
  rw [validB] at hB
  have HB := Lib.hid hB
  clear hB
  go_enter Tryd.func56, Tryd.ntmps56
  go_wp2_with fail
  all_goals
    go_ret
    refine ⟨?_, rfl⟩
    rw [← HB.out]
    congr 2
    simp
    first | omega | (simp_all; done) | (simp_all; omega)
set_option maxHeartbeats 4000000 in
set_option maxRecDepth 5000 in
theorem splits_det (D F : Option Addr) (cd cf : Nat) (sk db : Bool) (most : Int) (dl fl : List Int) (w : World) (hD : (Kd.int .i32).C w D dl.length dl) (hF : (Kd.int .i32).C w F fl.length fl) (hdl : dl.length ≤ 2147483647) (hfl : fl.length ≤ 2147483647) :
    Calls Tryd.prog 29 #[splV D F dl.length cd fl.length cf sk db most] w fun e w' => e = .returned (.bool (splitsB dl fl most)) ∧ Below w.heap.size w w' := by
  obtain ⟨BB, hBB⟩ : ∃ BB, splitsB dl fl most = BB := ⟨_, rfl⟩
  rw [hBB]
  have HBB := Lib.hid hBB
  clear hBB
  have HD := Lib.hid hD
  have HF := Lib.hid hF
  clear hD hF
  show Calls _ _ #[.agg #[.slice D dl.length cd, .slice F fl.length cf, .bool sk, .bool db, .int .i64 most]] w _
  go_enter Tryd.func29, Tryd.ntmps29
  have hg0 := heap_new w (.cells #[.slice D dl.length cd, .slice F fl.length cf, .bool sk, .bool db, .int .i64 most] 50)
  have hbw : Below w.heap.size w (w.alloc (.cells #[.slice D dl.length cd, .slice F fl.length cf, .bool sk, .bool db, .int .i64 most] 50)) := below_alloc (Below.refl _ _) _
  go_upto_region 1 with fail
  generalize hW0 : w.alloc (.cells #[.slice D dl.length cd, .slice F fl.length cf, .bool sk, .bool db, .int .i64 most] 50) = w0 at hg0 hbw ⊢
  have hz0 : w.heap.size < w0.heap.size := lt_of_heap hg0
  have H0 := Lib.hid hg0
  have HBW := Lib.hid hbw
  have HD0 := Lib.hid (Kd.C_below HD.out hbw)
  have HF0 := Lib.hid (Kd.C_below HF.out hbw)
  obtain ⟨c0, c1, c2, c3, c4⟩ := cells5 hg0
  have HS := Lib.hid (Below.refl w0.heap.size w0)
  clear hg0 hbw hW0 HD HF
  go_cut [11, 12, 13] (fun s11 s12 s13 wx => ∃ (A : Option Addr) (c : Nat), s11 = .slice A (dl ++ fl).length c ∧ s12 = .int .i64 ((dl ++ fl).length : Nat) ∧ s13 = .int .i64 0 ∧ Hid ((Kd.int .i32).C wx A (dl ++ fl).length (dl ++ fl)) ∧ Hid (Below w0.heap.size w0 wx))
  case first =>
    go_region_held3 (fun w' => w'.cell? ⟨w.heap.size, 0, none⟩ = some (.slice D dl.length cd) ∧ w'.cell? ⟨w.heap.size, 1, none⟩ = some (.slice F fl.length cf) ∧ w'.cell? ⟨w.heap.size, 2, none⟩ = some (.bool sk) ∧ w'.cell? ⟨w.heap.size, 3, none⟩ = some (.bool db) ∧ w'.cell? ⟨w.heap.size, 4, none⟩ = some (.int .i64 most) ∧ Hid (Below w0.heap.size w0 w'))
      (first
        | (go_split_ands; refine keepB5 hz0 H0.out ?_; (first
          | with_reducible assumption
          | (repeat' (first | with_reducible assumption | with_reducible exact HS | refine hid_drew ?_ | refine hid_alloc (Nat.le_refl _) ?_ _)))))
      (first
        | (go_split_ands; refine rows_step (w0 := w0) w0.heap.size (by rfl) (.tmp 5) (.tmp 7) 46 21 .i32 4 (by rfl) Tryd.underlying46 (by kernel_rfl) (by decide) _ [] dl D dl.length cd (by rfl) (by rfl) (own_none w0 _ (szof (by assumption))) (Kd.C_below HD0.out (Hid.out (by assumption))) (Hid.out (by assumption)) (szof (by assumption)) (by simp; omega) ?_; intro v1 w1 ho1 hbq; have HO1 := Lib.hid ho1; have HBq := Lib.hid hbq; clear ho1 hbq)
        | (go_split_ands; refine rows_step (w0 := w0) w0.heap.size (by rfl) (.tmp 8) (.tmp 10) 46 21 .i32 4 (by rfl) Tryd.underlying46 (by kernel_rfl) (by decide) _ ([] ++ dl) fl F fl.length cf (by rfl) (by rfl) HO1.out (Kd.C_below HF0.out (Hid.out (by assumption))) (Hid.out (by assumption)) (szof (by assumption)) (by simp; omega) ?_; intro v2 w2 ho2 hbq; have HO2 := Lib.hid ho2; have HBq := Lib.hid hbq; obtain ⟨A2, c2, hv2⟩ := own_slice ho2; subst hv2; clear ho2 hbq))
    go_wp2_with fail
    go_meet
    case rel =>
      refine ⟨A2, c2, rfl, by simp, rfl, Lib.hid ?_, by assumption⟩
      have h1 := HO2.out
      rw [List.nil_append] at h1
      obtain ⟨A', c', he, hr⟩ := own_reads h1
      cases he
      exact Kd.C_of_reads (enc := Value.int .i32) (d := (0 : Int)) (h1 := fun _ => rfl) hr
  case rest =>
    obtain ⟨A, c, rfl, rfl, rfl, HC, HB⟩ := hcut
    clear HD0 HF0 HS c0 c1 c2 c3 c4
    obtain ⟨c0, c1, c2, c3, c4⟩ := cells5 (blk_keep H0.out HB.out)
    have HBL := Lib.hid (HBW.out.trans (HB.out.mono (Nat.le_of_lt hz0)))
    have hlm : (dl ++ fl).length ≤ 4294967294 := by rw [List.length_append]; omega
    have HQ := Lib.hid (show ((dl ++ fl).all okR && splSz dl.length fl.length most) = BB from HBB.out)
    clear HBB
    generalize dl ++ fl = xs at HC hlm HQ ⊢
    have hdm : ((dl.length : Nat) : Int) ≤ 2147483647 := by omega
    go_wp2_with fail
    go_loopw [13] (fun i wi => ∃ k : Nat, k ≤ xs.length ∧ i = .int .i64 k ∧ Hid (∀ r ∈ xs.take k, okR r = true) ∧ wi = wc) (fun i _ => xs.length - (intOf i).toNat)
    case atStart => exact ⟨0, Nat.zero_le _, rfl, Lib.hid (by simp), rfl⟩
    case round =>
      obtain ⟨k, hk, rfl, hall, rfl⟩ := hrel
      by_cases hlt : k < xs.length
      · obtain ⟨ad, rfl, hs⟩ := runes_at HC.out k hlt
        have HST := Lib.hid (fun (h : okR xs[k] = true) => all_take hlt hall.out h)
        have HNO := Lib.hid (fun (h : okR xs[k] = false) => (show false = BB by rw [← HQ.out, all_bad hlt h]; rfl))
        generalize xs[k] = r at hs HST HNO
        go_wp2_with fail
        refine (white_det r _).mono ?_
        rintro e w1 ⟨rfl, rfl⟩
        cases hw : whiteB r
        · by_cases hff : r = 65533
          · have ht : (r == 65533) = true := by simpa using hff
            have HX := Lib.hid (HNO.out (by rw [okR, ht]; simp))
            clear hff
            go_wp2_with fail
            go_ret
            exact ⟨by rw [← HX.out]; rfl, HBL.out⟩
          · have ht : (r == 65533) = false := by simpa using hff
            clear hff
            go_wp2_with fail
            refine (valid_det r _).mono ?_
            rintro e w1 ⟨rfl, rfl⟩
            cases hv : validB r
            · have HX := Lib.hid (HNO.out (by rw [okR, hv]; simp))
              go_wp2_with fail
              go_ret
              exact ⟨by rw [← HX.out]; rfl, HBL.out⟩
            · have HX := Lib.hid (HST.out (by rw [okR, hv, ht, hw]; rfl))
              go_wp2_with fail
              exact ⟨⟨k + 1, by omega, by go_num, HX, trivial⟩, by simp [intOf]; omega⟩
        · have HX := Lib.hid (HNO.out (by rw [okR, hw]; simp))
          go_wp2_with fail
          go_ret
          exact ⟨by rw [← HX.out]; rfl, HBL.out⟩
      · obtain rfl : k = xs.length := by omega
        have HZ := Lib.hid (show splSz dl.length fl.length most = BB by
          have h := HQ.out
          rw [List.all_eq_true.2 (fun r hr => hall.out r (by rw [List.take_length]; exact hr))] at h
          simpa using h)
        by_cases h1 : 20 < dl.length
        · have HX := Lib.hid (show false = BB by rw [← HZ.out, splSz]; simp; omega)
          go_wp2_with fail
          go_ret
          exact ⟨by rw [← HX.out]; simp, HBL.out⟩
        by_cases h2 : 20 < fl.length
        · have HX := Lib.hid (show false = BB by rw [← HZ.out, splSz]; simp; omega)
          go_wp2_with fail
          go_ret
          exact ⟨by rw [← HX.out]; simp, HBL.out⟩
        by_cases h3 : 1048576 < most
        · have HX := Lib.hid (show false = BB by rw [← HZ.out, splSz]; simp; omega)
          go_wp2_with fail
          go_ret
          exact ⟨by rw [← HX.out]; simp, HBL.out⟩
        by_cases h4 : most < -1048576
        · have HX := Lib.hid (show false = BB by rw [← HZ.out, splSz]; simp; omega)
          go_wp2_with fail
          go_ret
          exact ⟨by rw [← HX.out]; simp; omega, HBL.out⟩
        have HX := Lib.hid (show true = BB by rw [← HZ.out, splSz]; simp; omega)
        go_wp2_with fail
        go_ret
        exact ⟨by rw [← HX.out]; simp, HBL.out⟩

theorem good_step {l : List UInt8} (hne : l ≠ []) (h : GoodL l) : (decodeL l).1 ≠ 65533 ∧ GoodL (l.drop (decodeL l).2) := by
  cases h with
  | nil => exact absurd rfl hne
  | cons _ _ hr hg => exact ⟨hr, hg⟩
set_option maxHeartbeats 1000000 in
set_option maxRecDepth 5000 in
/-- Just what readable tells. -/
theorem readable_det (s : ByteArray) (hs : s.size ≤ 9223372036854775807) : ∃ B : Bool, (B = true → GoodL s.data.toList ∧ s.size ≤ 300) ∧ ∀ w, Calls Tryd.prog 24 #[.string s] w fun e w' => e = .returned (.bool B) ∧ Below w.heap.size w w' := by
  obtain ⟨B, hB⟩ : ∃ B : Bool, B = true ↔ (GoodL s.data.toList ∧ s.size ≤ 300) := by
    by_cases h : GoodL s.data.toList ∧ s.size ≤ 300
    · exact ⟨true, by simp [h]⟩
    · exact ⟨false, by simp only [Bool.false_eq_true, false_iff]; exact h⟩
  refine ⟨B, hB.1, fun w => ?_⟩
  have HB := Lib.hid hB
  clear hB
  have hz : s.data.toList.length = s.size := data_length s
  go_enter Tryd.func24, Tryd.ntmps24
  go_wp2_with fail
  go_loopw [] (fun wr => ∃ pos : Nat, wr = w.iter s pos ∧ (GoodL (s.data.toList.drop pos) ↔ GoodL s.data.toList)) (fun wr => s.size - wr.iterPos w.heap.size)
  case atStart => exact ⟨0, rfl, Iff.rfl⟩
  case round =>
    obtain ⟨pos, rfl, hg⟩ := hrel
    by_cases hp : pos < s.size
    · have hnx : ∀ ty, (Instr.next (.pointer (some ⟨w.heap.size, 0, none⟩)) true ty).run Tryd.prog (w.iter s pos) = _ := fun ty => run_next_any w s pos ty hp
      have hne : s.data.toList.drop pos ≠ [] := by intro e; have := congrArg List.length e; simp at this; omega
      have hw := Go.Lib.decodeL_width (s.data.toList.drop pos)
      have hd := Go.Lib.decodeL_drop s pos
      have hgc : (decodeL (s.data.toList.drop pos)).1 ≠ 65533 → (GoodL ((s.data.toList.drop pos).drop (decodeL (s.data.toList.drop pos)).2) ↔ GoodL s.data.toList) := fun h1 => ⟨fun h2 => hg.1 (.cons _ hne h1 h2), fun h => (good_step hne (hg.2 h)).2⟩
      have hgn : (decodeL (s.data.toList.drop pos)).1 = 65533 → ¬ GoodL s.data.toList := fun h1 h => (good_step hne (hg.2 h)).1 h1
      rw [hd, List.drop_drop] at hgc
      rw [hd] at hw hgn
      clear hd hg
      by_cases hr : (Utf8.decode s pos).1 = 65533
      · have HX := Lib.hid (show B = false from by
          have := hgn hr
          cases hq : B
          · rfl
          · exact absurd (HB.out.1 hq).1 this)
        clear hgc hgn
        go_wp2_with fail
        go_ret
        exact ⟨by rw [HX.out]; rfl, below_iter _ _ _⟩
      · have hgc := hgc hr
        have hri : ¬ ((Utf8.decode s pos).1 : Int) = 65533 := by omega
        clear hgn
        go_wp2_with fail
        go_roundw
        case rel => exact ⟨_, rfl, hgc⟩
        case measure => simp; omega
    · have hnx : ∀ ty, (Instr.next (.pointer (some ⟨w.heap.size, 0, none⟩)) true ty).run Tryd.prog (w.iter s pos) = _ := fun ty => run_next_end w s pos ty hp
      have hgd : GoodL s.data.toList := hg.1 (by rw [List.drop_of_length_le (by omega)]; exact .nil)
      clear hg
      by_cases hl : s.size ≤ 300
      · have HX := Lib.hid (HB.out.2 ⟨hgd, hl⟩)
        go_wp2_with fail
        go_ret
        exact ⟨by rw [HX.out]; simp; omega, below_iter _ _ _⟩
      · have HX := Lib.hid (show B = false from by
          cases hq : B
          · rfl
          · exact absurd (HB.out.1 hq).2 hl)
        go_wp2_with fail
        go_ret
        exact ⟨by rw [HX.out]; simp; omega, below_iter _ _ _⟩
end Go.Proofs.YtaniafohcaiedaaDoor.Sn
