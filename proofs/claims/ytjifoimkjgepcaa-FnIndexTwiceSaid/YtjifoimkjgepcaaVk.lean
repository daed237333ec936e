/-
  The walk of laws.FnIndexTwice.
-/
import Derived.Test.YtjifoimkjgepcaaVi
set_option linter.unusedVariables false
set_option linter.unusedSimpArgs false
namespace Go.Proofs.Ytjifoimkjgepcaa.Da
open Go.RowKit Go.ChangeShapes Go.Proofs.Ytjifoimkjgepcaa.K Go.Proofs.YtjifoimkjgepcaaW.PrintWords Go.Maps

section
variable {P : Program} {ops : Array Oper} {o : Oper} {a : Act} {Q : Exit → Act → World → Prop} {Kc : Act → World → Prop}
/-- append(v, y1, y2) into a row of the call's own, at a step of a region that draws. -/
theorem step_app2 {w0 W : World} (base : Nat) (hw : Region.wanted o (yielded ops a.tmps) = true) (s x : Operand) (t e : TypeId) (z : Value) (bytes : Nat)
    (ho : o.op = .call { callee := .builtin .append, args := #[s, x], argTypes := #[t, t] })
    (ht : P.underlying t = some (.slice e)) (hinfo : (P.info? e).map (fun i => (i.zero, i.size, i.bytes)) = some (some z, 1, bytes)) (hz : z.cells.size = 1) (hb0 : 0 < bytes)
    (v : Value) (xs : List Value) (y1 y2 : Value) (hs : a.eval s = v) (hx : a.eval x = .slice (some ⟨W.heap.size, 0, none⟩) 2 2) (h1 : y1.oneCell' = true) (h2 : y2.oneCell' = true)
    (HO : W.ownsRow base e 1 v xs.length xs) (HB : Below base w0 W) (hbase : base ≤ W.heap.size) (hl : (xs.length + 2) * bytes ≤ 140737488355328)
    (h : ∀ v1 w1, w1.ownsRow base e 1 v1 (xs ++ [y1, y2]).length (xs ++ [y1, y2]) → Below base w0 w1 → W.grownBy w1 v.ownBlock → Kc (a.put o.dst v1) w1) :
    if Region.wanted o (yielded ops a.tmps) = true then Oper.wp P o a (W.alloc (.cells #[y1, y2] e)) Kc Q else Kc (a.put o.dst undef) (W.alloc (.cells #[y1, y2] e)) := by
  obtain ⟨i0, hi, hzz⟩ := Option.map_eq_some_iff.1 hinfo
  simp only [Prod.mk.injEq] at hzz
  obtain ⟨hz0, hz1, hz2⟩ := hzz
  have hlen : xs.length + 2 ≤ 140737488355328 := Nat.le_trans (Nat.le_mul_of_pos_right _ hb0) hl
  rw [if_pos hw]
  obtain ⟨v1, w1, hr, hown, hg, _, hat⟩ := run_append_own_at (P := P) (W.alloc (.cells #[y1, y2] e)) base t o.type e i0 z 1 bytes ht hi hz0 hz1 hz2 hz (by decide) v xs.length xs (World.ownsRow.alloc HO _) ⟨W.heap.size, 0, none⟩ 2 2 [y1, y2] rfl
    (by simpa using World.news_of_block (cs := #[y1, y2]) (t := e) (fr := (0, 0)) (heap_alloc_new W (.cells #[y1, y2] e))) (by intro u hu; simp at hu; rcases hu with rfl | rfl <;> assumption) (by simp only [maxLen]; omega) hl (by simp; omega)
  unfold Oper.wp execOp
  simp only [ho, resolve, invoke, builtin, Sem.run_bind, Sem.run_pure, Result.andThen_ok, List.map_toArray, List.map_cons, List.map_nil, hs, hx, hr]
  exact h v1 w1 (by simpa using hown) ((HB.alloc hbase _).grown hg (by simp; omega) (own_base HO)) (World.grownBy.trans (World.grownBy_alloc W _ _) hg)
end
theorem lists_okc {ws : List ByteArray} (ho : Ord ws false) (hl : ws.length ≤ 100000) (s : ByteArray) : ∀ l ∈ (ansI (ixOf ws) s).2.2.1, l.length ≤ 100001 ∧ ∀ z ∈ l, 0 ≤ z ∧ z ≤ 2147483640 := by
  intro l hlm
  obtain ⟨h, hh, rfl⟩ := List.mem_map.1 hlm
  obtain ⟨p, hp⟩ := hits_mem _ _ _ _ hh
  obtain ⟨j, hj, h1, h2⟩ := (ix_okc ho hl).1 _ hp
  simp only at hj
  rw [hj]
  simp only [Int.toNat_natCast]
  refine ⟨by rw [rng_length]; omega, fun z hz => ?_⟩
  obtain ⟨k, hk, rfl⟩ := List.mem_map.1 hz
  have := List.mem_range.1 hk
  omega
theorem twL_snoc (l : List Int) (z : Int) : twL (l ++ [z]) = twL l ++ [2 * z, 2 * z + 1] := by simp [twL]
theorem twL_length (l : List Int) : (twL l).length = 2 * l.length := by
  induction l with
  | nil => rfl
  | cons a l ih =>
    have : twL (a :: l) = [2 * a, 2 * a + 1] ++ twL l := by simp [twL]
    rw [this, List.length_append, ih]
    simp
    omega
theorem tw_take {ws : List ByteArray} {k : Nat} (h : k < ws.length) : tw (ws.take (k + 1)) = tw (ws.take k) ++ [ws[k], ws[k]] := by
  rw [List.take_succ_eq_append_getElem h, tw_append]
  rfl
set_option maxHeartbeats 4000000 in
set_option maxRecDepth 100000 in
theorem indexTwice_walk (Ak : Option Addr) (ck : Nat) (ws : List ByteArray) (s : ByteArray) (w : World) (hkC : Kd.string.C w Ak ws.length ws) (hkc : ws.length ≤ ck) :
    Calls Try.prog 9 #[.slice Ak ws.length ck, .string s] w fun e w' => e = .returned (.bool true) ∧ Below w.heap.size w w' := by
  have HKC := Lib.hid hkC
  have HKc := Lib.hid hkc
  clear hkC hkc
  go_enter Try.func9, Try.ntmps9
  go_wp2_with fail
  refine (zzFits3_any Ak ck ws w HKC.out).mono ?_
  rintro e w1 ⟨b0, rfl, hb, hw⟩
  have HFT0 := Lib.hid hb
  have HL1 := Lib.hid hw
  clear hb hw
  cases b0
  · go_wp2
    go_ret
    exact ⟨rfl, HL1.out⟩
  have HFT := Lib.hid (HFT0.out (by trivial))
  by_cases hbig1 : 2147483647 < (s.size : Int)
  · go_wp2
    go_ret
    exact ⟨rfl, HL1.out⟩
  have hkl := HFT.out.1
  have hs31 : s.size ≤ 2147483647 := by omega
  go_wp2_with fail
  have HLq := Lib.hid (HL1.out.alloc HL1.out.size (.cells #[.string s] 9))
  refine (few_two _ Ak (some ⟨w1.heap.size, 0, none⟩) ck 1 ws [s] (w1.alloc (.cells #[.string s] 9)) (Kd.C_alloc (Kd.C_below HKC.out HL1.out) _) HKc.out HFT.out (strs_new w1 s) (by simp) ⟨by simp, by simpa using hs31⟩ (by simp)).mono ?_
  rintro e w2 ⟨b3, rfl, hb, hw⟩
  have HS := Lib.hid hb
  have HL2 := Lib.hid (HLq.out.trans (hw.mono HLq.out.size))
  clear hb hw
  cases b3
  · go_wp2_with fail
    refine (indexes_any w2).mono ?_
    rintro e wf ⟨rfl, hwf⟩
    have HLf := Lib.hid (HL2.out.trans (hwf.mono HL2.out.size))
    clear hwf
    go_wp2_with fail
    go_ret
    exact ⟨rfl, HLf.out⟩
  go_wp2_with fail
  refine (ordered_any Ak ck ws false w2 (Kd.C_below HKC.out HL2.out) HFT.out).mono ?_
  rintro e w3 ⟨b4, rfl, hb, hw⟩
  have HO := Lib.hid hb
  have HL3 := Lib.hid (HL2.out.trans (hw.mono HL2.out.size))
  clear hb hw
  cases b4
  · go_wp2_with fail
    refine (indexes_any w3).mono ?_
    rintro e wf ⟨rfl, hwf⟩
    have HLf := Lib.hid (HL3.out.trans (hwf.mono HL3.out.size))
    clear hwf
    go_wp2_with fail
    go_ret
    exact ⟨rfl, HLf.out⟩
  go_wp2_with fail
  have HLc := Lib.hid (HL3.out.alloc HL3.out.size (.cells #[.string s] 9))
  refine (clean_one _ s _ hs31 (heap_new w3 _)).mono ?_
  rintro e wc ⟨b6, rfl, hb, hwc⟩
  have HCL := Lib.hid hb
  rw [← hwc] at HLc
  clear hb hwc
  cases b6
  · go_wp2_with fail
    refine (indexes_any wc).mono ?_
    rintro e wf ⟨rfl, hwf⟩
    have HLf := Lib.hid (HLc.out.trans (hwf.mono HLc.out.size))
    clear hwf
    go_wp2_with fail
    go_ret
    exact ⟨rfl, HLf.out⟩
  have hsum := HS.out (by trivial)
  have hord := HO.out.1 (by trivial)
  have hl4 : ws.length ≤ 4000 := Nat.le_trans (len_le_sum _) (by omega)
  have hs4 : s.size ≤ 4000 := by have := hsum; simp [sumL] at this; omega
  have HORD := Lib.hid hord
  have HNZ := Lib.hid (HCL.out.1 (by trivial))
  have HSM : Hid (sumL (ixOf ws).K ≤ 4000) := Lib.hid (Nat.le_trans (ixOf_sum hord) (by omega))
  clear hsum hord
  go_upto_region 7 with fail
  obtain ⟨w0, hw0⟩ : ∃ w0, w0 = wc := ⟨_, rfl⟩
  have HB0 : Hid (Below w.heap.size w w0) := by rw [hw0]; exact HLc
  rw [← hw0]
  clear hw0
  go_loopw [5, 6, 43] (fun tv _ jv wr => ∃ k : Nat, k ≤ ws.length ∧ jv = .int .i64 k ∧ Hid (OwnS w0.heap.size tv (tw (ws.take k)) wr) ∧ Hid (Below w0.heap.size w0 wr)) (fun _ _ jv _ => ws.length - (intOf jv).toNat)
  case atStart => exact ⟨0, Nat.zero_le _, rfl, Lib.hid (World.ownsRow_nil _ _ _ _), Lib.hid (Below.refl _ _)⟩
  case round =>
    obtain ⟨k, hk, rfl, HT, HB⟩ := hrel
    by_cases hlt : k < ws.length
    · obtain ⟨ad, rfl, hx⟩ := strs_at (Kd.C_below HKC.out HB0.out) k hlt
      have hy := (HB.out.cell (World.block_lt_of_cell? w0 _ hx)).trans hx
      have HTK := Lib.hid (tw_take hlt)
      have hli : (k : Int) < (ws.length : Int) := by omega
      have htl : (tw (ws.take k)).length ≤ 8000 := by rw [tw_length, List.length_take]; omega
      generalize ws[k] = key at hy HTK
      have HBD : Hid (Below w0.heap.size w0 wr.drew) := Lib.hid HB.out.drew
      have HTD : Hid (OwnS w0.heap.size u5 (tw (ws.take k)) wr.drew) := Lib.hid (own_keep HT.out (fun q hq => rfl))
      clear hx
      go_upto_region 9 with fail
      go_region_law (refine step_app2 (w0 := w0) w0.heap.size (by rfl) (.tmp 46) (.tmp 55) 28 tStr (.string ByteArray.empty) 16 rfl Try.underlying28 (by kernel_rfl) rfl (by decide) u5 ((tw (ws.take k)).map Value.string) (.string key) (.string key) rfl rfl rfl rfl HTD.out HBD.out HBD.out.size (by rw [List.length_map]; omega) ?_; intro v1 w1 ho hb hg)
      all_goals
        have HX1 : Hid (OwnS w0.heap.size v1 (tw (ws.take (k + 1))) w1) := Lib.hid (by rw [HTK.out]; unfold OwnS; simpa using ho)
        have HX2 := Lib.hid hb
        clear ho hb hg
        go_wp2_with fail
        exact ⟨⟨k + 1, by omega, by go_num, HX1, HX2⟩, by simp [intOf]; omega⟩
    · obtain rfl : k = ws.length := by omega
      have ht := HT.out
      rw [List.take_length] at ht
      obtain ⟨At, ct, rfl, hCt⟩ := ht.reads rfl
      have HCT := Lib.hid hCt
      have HB1 := Lib.hid (HB0.out.trans (HB.out.mono HB0.out.size))
      have htl : (tw ws).length ≤ 8000 := by rw [tw_length]; omega
      clear ht hCt HT
      go_wp2_with fail
      refine (lawIndex_any Ak ck ws s wr HORD.out (Kd.C_below HKC.out HB1.out) (by omega) HSM.out HNZ.out (by omega)).mono ?_
      rintro e w3 ⟨A0, c0, A1, c1, A2, c2, A3, c3, rfl, hC1, hC2, hb3⟩
      obtain ⟨a, ha⟩ : ∃ a, ansI (ixOf ws) s = a := ⟨_, rfl⟩
      have hok := lists_okc HORD.out (by omega) s
      have htwo := twice_ans HORD.out s
      rw [ha] at hC1 hC2 hok htwo ⊢
      obtain ⟨b7, hb7⟩ : ∃ b7, b7 = w3.heap.size := ⟨_, rfl⟩
      obtain ⟨w4, hw4⟩ : ∃ w4, w4 = w3.alloc (.cells #[.slice A0 a.1.length c0, .slice A1 a.2.1.length c1, .slice A2 a.2.2.1.length c2, .slice A3 a.2.2.2.length c3] tIAns) := ⟨_, rfl⟩
      have hb4 : Below w3.heap.size w3 w4 := by rw [hw4]; exact (Below.refl _ _).alloc (Nat.le_refl _) _
      have hx7 : IAt b7 (.slice A0 a.1.length c0) (.slice A1 a.2.1.length c1) (.slice A2 a.2.2.1.length c2) (.slice A3 a.2.2.2.length c3) w4 := by rw [hw4, hb7]; exact heap_new _ _
      have HX7 := Lib.hid hx7
      have HC1 := Lib.hid (Kd.C_below hC1 hb4)
      have HC2 := Lib.hid (Kd.C_below hC2 hb4)
      have HB4 := Lib.hid ((HB1.out.trans (hb3.mono HB1.out.size)).trans (hb4.mono (Nat.le_trans HB1.out.size hb3.size)))
      have HCT4 := Lib.hid (Kd.C_below (Kd.C_below HCT.out hb3) hb4)
      have HOK := Lib.hid hok
      have HTWO := Lib.hid htwo
      have HSM2 : Hid (sumL (ixOf (tw ws)).K ≤ 4000) := Lib.hid (by rw [tw_K HORD.out]; exact HSM.out)
      have HLT := Lib.hid (lawIndex_any At ct (tw ws) s w4 (tw_ord HORD.out) HCT4.out (by omega) HSM2.out HNZ.out (by omega))
      clear ha hC1 hC2 hb3 hb4 hx7 hok htwo HB HCT
      go_upto_region 12 with fail
      rw [← hw4, ← hb7]
      clear hw4 hb7
      go_wp2_with fail
      refine HLT.out.mono ?_
      rintro e w5 ⟨B0, d0, B1, d1, B2, d2, B3, d3, rfl, hD1, hD2, hb5⟩
      generalize ansI (ixOf (tw ws)) s = b at hD1 hD2 HTWO ⊢
      obtain ⟨b0, b1, b2, b3⟩ := b
      obtain ⟨a0, a1, a2, a3⟩ := a
      have ht := HTWO.out
      dsimp only at ht
      obtain ⟨h1, h2⟩ := ht
      subst h1 h2
      dsimp only at HX7 HC1 HC2 HOK hD1 hD2 ⊢
      rw [List.length_map] at hD2 ⊢
      obtain ⟨b9, hb9⟩ : ∃ b9, b9 = w5.heap.size := ⟨_, rfl⟩
      obtain ⟨w6, hw6⟩ : ∃ w6, w6 = w5.alloc (.cells #[.slice B0 b0.length d0, .slice B1 b1.length d1, .slice B2 a2.length d2, .slice B3 b3.length d3] tIAns) := ⟨_, rfl⟩
      have hb6 : Below w5.heap.size w5 w6 := by rw [hw6]; exact (Below.refl _ _).alloc (Nat.le_refl _) _
      have hx9 : IAt b9 (.slice B0 b0.length d0) (.slice B1 b1.length d1) (.slice B2 a2.length d2) (.slice B3 b3.length d3) w6 := by rw [hw6, hb9]; exact heap_new _ _
      have hx7 := (HX7.out.below hb5).below hb6
      have HX9 := Lib.hid hx9
      have HX76 := Lib.hid hx7
      have HC16 := Lib.hid (Kd.C_below (Kd.C_below HC1.out hb5) hb6)
      have HC26 := Lib.hid (Kd.C_below (Kd.C_below HC2.out hb5) hb6)
      have HD16 := Lib.hid (Kd.C_below hD1 hb6)
      have HD26 := Lib.hid (Kd.C_below hD2 hb6)
      have HB6 := Lib.hid ((HB4.out.trans (hb5.mono HB4.out.size)).trans (hb6.mono (Nat.le_trans HB4.out.size hb5.size)))
      obtain ⟨g0, g1, g2, g3⟩ := hx7.c
      obtain ⟨k0, k1, k2, k3⟩ := hx9.c
      clear hD1 hD2 hb5 hb6 hx7 hx9 HC1 HC2 HX7 HTWO HLT HCT4 HSM2
      go_upto_region 13 with fail
      rw [← hw6, ← hb9]
      clear hw6 hb9
      go_wp2_with fail
      refine (sameInt_any A1 B1 c1 d1 b1 b1 w6 HC16.out HD16.out).mono ?_
      rintro e w7 ⟨rfl, hb7'⟩
      have hx7 := HX76.out.below hb7'
      have hx9 := HX9.out.below hb7'
      have HX77 := Lib.hid hx7
      have HX97 := Lib.hid hx9
      have HC27 := Lib.hid (Kd.C_below HC26.out hb7')
      have HD27 := Lib.hid (Kd.C_below HD26.out hb7')
      have HB7 := Lib.hid (HB6.out.trans (hb7'.mono HB6.out.size))
      clear g0 g1 g2 g3 k0 k1 k2 k3 hb7' HX76 HX9 HC16 HC26 HD16 HD26 HB6
      obtain ⟨g0, g1, g2, g3⟩ := hx7.c
      obtain ⟨k0, k1, k2, k3⟩ := hx9.c
      rw [decide_eq_true (rfl : b1 = b1)]
      clear hx7 hx9
      go_upto_region 16 with fail
      clear g0 g1 g2 g3 k0 k1 k2 k3
      have h63 : a2.length ≤ 9223372036854775807 := HC27.out.2.1
      go_loopw [11, 12, 14, 96] (fun _ _ _ jv wr => ∃ k : Nat, k ≤ a2.length ∧ jv = .int .i64 k ∧ Hid (Below w7.heap.size w7 wr)) (fun _ _ _ jv _ => a2.length - (intOf jv).toNat)
      case atStart => exact ⟨0, Nat.zero_le _, rfl, Lib.hid (Below.refl _ _)⟩
      case round =>
        obtain ⟨k, hk, rfl, HBo⟩ := hrel
        by_cases hlt : k < a2.length
        · obtain ⟨ad2, A', c', hA2, hy, hcl, hCl⟩ := rows_at (Kd.C_below HC27.out HBo.out) k hlt
          have hlt2 : k < (a2.map twL).length := by rw [List.length_map]; exact hlt
          obtain ⟨hl1, hl2⟩ := HOK.out _ (List.getElem_mem hlt)
          have HDR := Lib.hid (rows_at HD27.out k hlt2)
          rw [List.getElem_map] at HDR
          subst hA2
          generalize a2[k] = l at hy hCl hcl hl1 hl2 HDR
          have HL2 := Lib.hid hl2
          have HCl := Lib.hid hCl
          have hg2 : wr.cell? ⟨b7, 2, none⟩ = some (.slice (some ad2) a2.length c2) := (HX77.out.below HBo.out).c.2.2.1
          have hli : (k : Int) < (a2.length : Int) := by omega
          obtain ⟨wo, rfl⟩ : ∃ wo, wo = wr := ⟨_, rfl⟩
          clear hcl hl2 hCl hlt2
          go_upto_region 20 with fail
          clear hg2 hy
          go_loopw [12, 14, 105] (fun lv _ jv wr => ∃ i : Nat, i ≤ l.length ∧ jv = .int .i64 i ∧ Hid (OwnI wo.heap.size lv (twL (l.take i)) wr) ∧ Hid (Below wo.heap.size wo wr)) (fun _ _ jv _ => l.length - (intOf jv).toNat)
          case atStart => exact ⟨0, Nat.zero_le _, rfl, Lib.hid (World.ownsRow_nil _ _ _ _), Lib.hid (Below.refl _ _)⟩
          case round =>
            obtain ⟨i, hi, rfl, HL, HBi⟩ := hrel
            by_cases hilt : i < l.length
            · obtain ⟨ad, rfl, hx⟩ := ints_at (Kd.C_below HCl.out HBi.out) i hilt
              have HTI : Hid (twL (l.take (i + 1)) = twL (l.take i) ++ [2 * l[i], 2 * l[i] + 1]) := Lib.hid (by rw [List.take_succ_eq_append_getElem hilt, twL_snoc])
              obtain ⟨hz1, hz2⟩ := HL2.out _ (List.getElem_mem hilt)
              have hlen : (twL (l.take i)).length ≤ 200002 := by rw [twL_length, List.length_take]; omega
              generalize l[i] = z at hx HTI hz1 hz2
              have hw1 : IntKind.i64.wrap (2 * z) = 2 * z := IntWalk.i64_in _ (by omega)
              have hw2 : IntKind.i64.wrap (2 * z + 1) = 2 * z + 1 := IntWalk.i64_in _ (by omega)
              have hii : (i : Int) < (l.length : Int) := by omega
              obtain ⟨i0, hi0, hz0, hz1', hz2'⟩ := info_parts infoInt
              go_upto_region 23 with (at_builtin; refine wpList_append_own_at _ rfl _ _ 29 rfl wo.heap.size tInt i0 (.int .i64 0) 1 8 Try.underlying29 hi0 hz0 hz1' hz2' rfl (by decide) _ ((twL (l.take i)).map (Value.int .i64)).length ((twL (l.take i)).map (Value.int .i64)) rfl (World.ownsRow.alloc HL.out _) ⟨wr.heap.size, 0, none⟩ 2 2 [.int .i64 (2 * z), .int .i64 (2 * z + 1)] rfl rfl ?hn ?h1 (by rw [List.length_map]; unfold maxLen; omega) (by rw [List.length_map]; omega) (by have := HBi.out.size; simp; omega) ?_)
              case hn => exact World.news_of_block (cs := #[.int .i64 (2 * z), .int .i64 (2 * z + 1)]) (t := tInt) (fr := (0, 0)) (heap_new wr _)
              case h1 => intro u hu; simp at hu; rcases hu with rfl | rfl <;> rfl
              intro v1 w1 hown1 hg1 _ _
              have HX1 : Hid (OwnI wo.heap.size v1 (twL (l.take (i + 1))) w1) := Lib.hid (by rw [HTI.out]; unfold OwnI; simpa using hown1)
              have HX2 : Hid (Below wo.heap.size wo w1) := Lib.hid ((HBi.out.alloc HBi.out.size _).grown hg1 (by have := HBi.out.size; simp; omega) (own_base HL.out))
              clear hown1 hg1
              go_wp2_with fail
              exact ⟨⟨i + 1, by omega, by go_num, HX1, HX2⟩, by simp [intOf]; omega⟩
            · obtain rfl : i = l.length := by omega
              have hr := HL.out
              rw [List.take_length] at hr
              obtain ⟨Al, cl, rfl, hCr⟩ := hr.reads rfl
              have HCR := Lib.hid hCr
              have HBt := Lib.hid (HBo.out.trans (HBi.out.mono HBo.out.size))
              obtain ⟨ad3, B', d', hB2, hyb, hcb, hCb⟩ := HDR.out
              subst hB2
              have hyb' := (HBt.out.cell (World.block_lt_of_cell? w7 _ hyb)).trans hyb
              have HCB := Lib.hid (Kd.C_below hCb HBt.out)
              have hk2 : wr.cell? ⟨b9, 2, none⟩ = some (.slice (some ad3) a2.length d2) := (HX97.out.below HBt.out).c.2.2.1
              clear hr hCr hcb hCb hyb
              go_wp2_with fail
              refine (sameInt_any B' Al d' cl (twL l) (twL l) wr HCB.out HCR.out).mono ?_
              rintro e w8 ⟨rfl, hb8⟩
              have HB8 := Lib.hid (HBt.out.trans (hb8.mono HBt.out.size))
              rw [decide_eq_true (rfl : twL l = twL l)]
              clear hb8 hk2 hyb'
              go_wp2_with fail
              exact ⟨⟨k + 1, by omega, by go_num, HB8⟩, by simp [intOf]; omega⟩
        · obtain rfl : k = a2.length := by omega
          have HB8 := Lib.hid (HB7.out.trans (HBo.out.mono HB7.out.size))
          go_wp2_with fail
          refine (indexes_any wr).mono ?_
          rintro e wf ⟨rfl, hwf⟩
          have HLf := Lib.hid (HB8.out.trans (hwf.mono HB8.out.size))
          clear hwf
          go_wp2_with fail
          go_ret
          exact ⟨rfl, HLf.out⟩
end Go.Proofs.Ytjifoimkjgepcaa.Da
