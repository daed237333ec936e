/-
  The walk of laws.FnUserRecordsParts.
-/
import Derived.Test.YtaniafohcaiedaaUu
import Derived.Test.YtaniafohcaiedaaUs
import Derived.Test.YtaniafohcaiedaaWGuard
set_option linter.unusedVariables false
set_option linter.unusedSimpArgs false
namespace Go.Proofs.Ytaniafohcaiedaa.Tx
open Go.RowKit Go.Proofs.Ytaniafohcaiedaa.K Go.Proofs.YtaniafohcaiedaaW.PrintWords

theorem all_of_take {α : Type} {p : α → Prop} {xs : List α} (h : ∀ x ∈ xs, p x) (k : Nat) : ∀ x ∈ xs.take k, p x := fun x hx => h x (List.mem_of_mem_take hx)
theorem fixed_R {α : Type} {d : Kd α} {w0 w1 w : World} {e base : Nat} {ok : Nat → Prop} {v : Value} {xs : List α} (h : (Kd.fixed d w0).R e w base ok v xs) (hb : Below w0.heap.size w0 w1) : (Kd.fixed d w1).R e w base ok v xs :=
  Kd.R_imp (d := Kd.fixed d w0) (d' := Kd.fixed d w1) rfl (fun _ _ _ _ _ hp => d.K_below hb hp) h
def RetT (w : World) (e : Ending) (w' : World) : Prop := e = .returned (.bool true) ∧ Below w.heap.size w w'

set_option maxHeartbeats 4000000 in
set_option maxRecDepth 5000 in
theorem ur_walk (A B : Option Addr) (c cB : Nat) (l m : List Rec) (s : ByteArray) (w : World) (hC : kRec.C w A l.length l) (hCB : kRec.C w B m.length m) (hs0 : s.size ≤ 140737488351232) :
    Calls Try.prog 5 #[.slice A l.length c, .slice B m.length cB, .string s] w (RetT w) := by
  obtain ⟨x, rfl⟩ : ∃ x, s = ofL x := ⟨toL s, (ofL_toL s).symm⟩
  have hxs : (ofL x).size = x.length := ofL_size x
  rw [hxs] at hs0
  have hm := hC.2.1
  have hmB := hCB.2.1
  have HC := Lib.hid hC
  have HCB := Lib.hid hCB
  have HXS := Lib.hid hxs
  have HU := Lib.hid users_any
  clear hC hCB
  go_enter Try.func5, Try.ntmps5
  go_wp2_with fail
  refine (zzFits14_any A c l w HC.out).mono ?_
  rintro e w1 ⟨b1, rfl, hb1, hl1⟩
  have HB1 := Lib.hid hb1
  have HL1 := Lib.hid hl1
  have hz1 := hl1.size
  clear hb1 hl1
  cases b1
  · go_wp2
    go_ret
    exact ⟨by simp, HL1.out⟩
  go_wp2_with fail
  refine (zzFits14_any B cB m w1 (Kd.C_below HCB.out HL1.out)).mono ?_
  rintro e w2 ⟨b2, rfl, _, hl2⟩
  have HL2 := Lib.hid (HL1.out.trans (hl2.mono hz1))
  have hz2 := HL2.out.size
  clear hl2
  cases b2
  · go_wp2
    go_ret
    exact ⟨by simp, HL2.out⟩
  by_cases hbig : 2147483647 < x.length
  · go_wp2
    go_ret
    exact ⟨by simp, HL2.out⟩
  go_wp2_with fail
  refine (plainRecords_any A c l w2 (Kd.C_below HC.out HL2.out) (HB1.out trivial).2).mono ?_
  rintro e w3 ⟨b3, rfl, hb3, hl3⟩
  have HB3 := Lib.hid hb3
  have HL3 := Lib.hid (HL2.out.trans (hl3.mono hz2))
  have hz3 := HL3.out.size
  clear hb3 hl3
  cases b3
  · go_wp2_with fail
    refine (HU.out w3).mono ?_
    rintro e w4 ⟨rfl, hl4⟩
    have HL4 := Lib.hid (HL3.out.trans (hl4.mono hz3))
    clear hl4
    go_wp2
    go_ret
    exact ⟨by simp, HL4.out⟩
  by_cases h1000 : 1000 < x.length
  · go_wp2_with fail
    refine (HU.out w3).mono ?_
    rintro e w4 ⟨rfl, hl4⟩
    have HL4 := Lib.hid (HL3.out.trans (hl4.mono hz3))
    clear hl4
    go_wp2
    go_ret
    exact ⟨by simp, HL4.out⟩
  obtain ⟨hl30, hok⟩ := HB3.out rfl
  have HOK := Lib.hid hok
  have HFT := Lib.hid (HB1.out trivial).2
  clear hok HB1 HB3 hbig
  have HGO := Lib.hid (show ∀ (W : World), Below w.heap.size w W → w.heap.size ≤ W.heap.size → Calls Try.prog 18 #[] W (fun e w' => e = .returned (.bool true) ∧ Below w.heap.size w w') from
    fun W hW hz => (HU.out W).mono fun e w' ⟨he, hb⟩ => ⟨he, hW.trans (hb.mono hz)⟩)
  by_cases h0 : x.length = 0
  case' pos => skip
  case' neg => rcases Bool.eq_false_or_eq_true ((((ofL x)[x.length - 1]'(by omega)).toNat : Int) != 10) with hq | hq
  case neg.inl =>
    go_wp2_with fail
    refine (HGO.out w3 HL3.out hz3).mono ?_
    rintro e w4 ⟨rfl, hl4⟩
    have HL4 := Lib.hid hl4
    clear hl4
    go_wp2
    go_ret
    exact ⟨by simp, HL4.out⟩
  all_goals
    have HX3 := Lib.hid h1000
    go_wp2_with fail
    (try clear hq)
    (try clear h0)
    go_loopw [54, 7] (fun i t wr => ∃ k : Nat, k ≤ l.length ∧ i = .int .i64 k ∧ t = .string (ofL (textL (l.take k))) ∧ Hid (Below w.heap.size w wr)) (fun i _ _ => l.length - (intOf i).toNat)
    case atStart => exact ⟨0, Nat.zero_le _, rfl, rfl, HL3⟩
    case round =>
      obtain ⟨k, hk, rfl, rfl, hbel⟩ := hrel
      have hzr := hbel.out.size
      have hbt := textL_fit (l.take k) (all_of_take HOK.out k) (all_of_take HFT.out k)
      have hkl : (l.take k).length = k := by rw [List.length_take]; omega
      rw [hkl] at hbt
      by_cases hlt : k < l.length
      · obtain ⟨ad, A1, c1, A2, c2, rfl, s0, s1, s2, s3, g1, _, g2, _⟩ := recs_at (Kd.C_below HC.out hbel.out) k hlt
        have hu := HOK.out _ (List.getElem_mem hlt)
        have hfu := HFT.out _ (List.getElem_mem hlt)
        have HTT := Lib.hid (show textL (l.take (k + 1)) = textL (l.take k) ++ (rowL l[k] ++ [10]) by rw [List.take_succ_eq_append_getElem hlt, textL_app]; rfl)
        have hrl := rowL_fit hu hfu
        have G1 := Lib.hid g1
        have G2 := Lib.hid g2
        have HU1 := Lib.hid hu
        have HF1 := Lib.hid hfu
        clear g1 g2 hu hfu hkl
        generalize l[k] = u at *
        obtain ⟨a, ys, zs, d⟩ := u
        have hap : (ofL (textL (l.take k)) ++ ofL (rowL (a, ys, zs, d) ++ [10])).size = (textL (l.take k)).length + ((rowL (a, ys, zs, d)).length + 1) := by rw [ofL_append, ofL_size]; simp
        have hz1 : (ofL (textL (l.take k))).size = (textL (l.take k)).length := ofL_size _
        have hz2 : (ofL (rowL (a, ys, zs, d) ++ [10])).size = (rowL (a, ys, zs, d)).length + 1 := by rw [ofL_size]; simp
        go_wp2_with fail
        refine (line_any (a, ys, zs, d) A1 A2 c1 c2 _ (Kd.C_alloc G1.out _) (Kd.C_alloc G2.out _) HF1.out HU1.out).mono ?_
        rintro e w4 ⟨rfl, hl4⟩
        have HL4 := Lib.hid ((hbel.out.alloc hzr _).trans (hl4.mono (by simp; omega)))
        clear hl4 s0 s1 s2 s3
        rw [ofL_append] at hap
        go_wp2
        rw [ofL_append]
        exact ⟨⟨k + 1, by omega, by go_num, by rw [HTT.out], HL4⟩, by simp [intOf]; omega⟩
      · obtain rfl : k = l.length := by omega
        have hx1000 := HX3.out
        rw [List.take_length] at hbt
        rw [List.take_length]
        have HSP := Lib.hid (specRecords_any (ofL x) wr (by rw [ofL_size]; omega))
        have hap : (ofL (textL l) ++ ofL x).size = (textL l).length + x.length := by rw [ofL_append, ofL_size]; simp
        have hz1 : (ofL (textL l)).size = (textL l).length := ofL_size _
        have HPA := Lib.hid (parse_app x l HOK.out)
        have HUX := Lib.hid (fun W => userRecords_any x W (by omega) (Nat.le_trans (rawL_lens _ x (Nat.le_refl _)).1 (by omega)))
        have HUT := Lib.hid (fun W => userRecords_any (textL l ++ x) W (by simp; omega) (by rw [rawL_count l x HOK.out]; have := (rawL_lens _ x (Nat.le_refl _)).1; omega))
        go_wp2_with fail
        refine HSP.out.mono ?_
        rintro e w4 ⟨v4, i4, b4, rfl, hl4⟩
        have HL4 := Lib.hid (hbel.out.trans (hl4.mono hzr))
        have hz4 := HL4.out.size
        clear hl4
        cases b4
        · go_wp2_with fail
          refine (HGO.out w4 HL4.out hz4).mono ?_
          rintro e w5 ⟨rfl, hl5⟩
          have HL5 := Lib.hid hl5
          clear hl5
          go_wp2
          go_ret
          exact ⟨by simp, HL5.out⟩
        unfold UsersRet at HUX HUT
        rw [HPA.out] at HUT
        have HRB := Lib.hid (fun rs h => parse_len (l := x) (rs := rs) h (Nat.le_trans (rawL_lens _ x (Nat.le_refl _)).1 (by omega)))
        obtain ⟨q, hq⟩ : ∃ q, parse x = q := ⟨_, rfl⟩
        rw [hq] at HUX HUT HRB
        clear hq HPA
        cases q with
        | none =>
          simp only [Option.map_none] at HUT
          go_wp2_with fail
          refine (HUX.out w4).mono ?_
          rintro e w5 ⟨rfl, hl5⟩
          have HL5 := Lib.hid (HL4.out.trans (hl5.mono hz4))
          have hz5 := HL5.out.size
          clear hl5
          rw [ofL_append] at hap
          go_wp2_with fail
          rw [ofL_append]
          refine (HUT.out w5).mono ?_
          rintro e w6 ⟨rfl, hl6⟩
          have HL6 := Lib.hid (HL5.out.trans (hl6.mono hz5))
          have hz6 := HL6.out.size
          clear hl6
          go_wp2_with fail
          refine (HGO.out w6 HL6.out hz6).mono ?_
          rintro e w7 ⟨rfl, hl7⟩
          have HL7 := Lib.hid hl7
          clear hl7
          go_wp2
          go_ret
          exact ⟨by simp, HL7.out⟩
        | some rs =>
          have hrb := HRB.out rs rfl
          simp only [Option.map_some] at HUT
          go_wp2_with fail
          refine (HUX.out w4).mono ?_
          rintro e w5 ⟨A5, c5, rfl, hc5, hC5, hl5⟩
          have HC5 := Lib.hid hC5
          have HL5 := Lib.hid (HL4.out.trans (hl5.mono hz4))
          have hz5 := HL5.out.size
          clear hl5 hC5
          rw [ofL_append] at hap
          go_wp2_with fail
          rw [ofL_append]
          refine (HUT.out w5).mono ?_
          rintro e w6 ⟨A6, c6, rfl, hc6, hC6, hl6⟩
          have HC5' := Lib.hid (Kd.C_below HC5.out hl6)
          have HC6 := Lib.hid hC6
          have HL6 := Lib.hid (HL5.out.trans (hl6.mono hz5))
          have HC' := Lib.hid (Kd.C_below HC.out HL6.out)
          have hz6 := HL6.out.size
          have hrs := HC5.out.2.1
          have hls := HC6.out.2.1
          clear hl6 hC6 HC5
          go_wp2_with (at_builtin; refine gate_guard (by rfl) ?_; refine Kd.R_append_rows (Rr := kRec.K w6) (w0 := w6) (Kd.fixed kRec w6) w6.heap.size rfl (.tmp 91) (.tmp 92) 33 36 (.agg #[.string ⟨#[]⟩, .slice none 0 0, .slice none 0 0, .string ⟨#[]⟩]) 80 rfl Try.underlying33 (fix_info w6) rfl rec_pos (by decide) _ [] l A l.length c (fun _ => True) (fun _ => False) rfl rfl (R_empty (Kd.fixed kRec w6) 36 w6 w6.heap.size (Nat.le_refl _)) (ReadsRow.imp_ (R := kRec.K w6) (R' := kRec.K w6) HC'.out (below_alloc (Below.refl _ _) _) (fun _ _ h => h)) (fun x cs h => h) (fun _ h => h.elim) (fun _ _ => trivial) ((Below.refl _ w6).alloc (Nat.le_refl _) _) (by simp) ?hl ?_)
          case hl => simp; omega
          intro v7 w7 hR7 hB7 hg7 hat7
          have HR7 := Lib.hid hR7
          have HB7 := Lib.hid hB7
          have hz7 := hB7.size
          clear hg7 hat7 hR7 hB7
          go_wp2_with (at_builtin; refine gate_guard (by rfl) ?_; refine Kd.R_append_rows (Rr := kRec.K w6) (w0 := w6) (Kd.fixed kRec w6) w6.heap.size rfl (.tmp 93) (.tmp 94) 33 36 (.agg #[.string ⟨#[]⟩, .slice none 0 0, .slice none 0 0, .string ⟨#[]⟩]) 80 rfl Try.underlying33 (fix_info w6) rfl rec_pos (by decide) _ l rs A5 rs.length c5 (fun _ => True) (fun _ => False) rfl rfl HR7.out (ReadsRow.imp_ (R := kRec.K w6) (R' := kRec.K w6) HC5'.out HB7.out (fun _ _ h => h)) (fun x cs h => h) (fun _ h => h.elim) (fun _ _ => trivial) HB7.out hz7 ?hl ?_)
          case hl => omega
          intro v8 w8 hR8 hB8 hg8 hat8
          obtain ⟨A8, c8, rfl, hc8, hC8⟩ := Kd.R_reads hR8
          have hz8 := hB8.size
          have HS8 := Lib.hid (sameRecords_eq A6 A8 c6 c8 (l ++ rs) w8 (Kd.C_below HC6.out hB8) (fixed_C hC8 hB8))
          have HL8 := Lib.hid (HL6.out.trans (hB8.mono hz6))
          clear hg8 hat8 hR8 hC8 hB8
          rw [List.length_append] at HS8
          go_wp2_with fail
          refine HS8.out.mono ?_
          rintro e w9 ⟨rfl, hl9⟩
          have HL9 := Lib.hid (HL8.out.trans (hl9.mono (Nat.le_trans hz6 hz8)))
          have hz9 := HL9.out.size
          clear hl9
          go_wp2_with fail
          refine (HGO.out w9 HL9.out hz9).mono ?_
          rintro e wA ⟨rfl, hlA⟩
          have HLA := Lib.hid hlA
          clear hlA
          go_wp2
          go_ret
          exact ⟨by simp, HLA.out⟩
end Go.Proofs.Ytaniafohcaiedaa.Tx
