import Derived.Test.YtjifoimkjgepcaaDoorYm
/-
  The walk of laws.FnTrieMany.
-/
set_option linter.unusedVariables false
set_option linter.unusedSimpArgs false
namespace Go.Proofs.YtjifoimkjgepcaaDoor.Da
open Go.RowKit Go.ChangeShapes Go.Proofs.YtjifoimkjgepcaaDoor.K Go.Proofs.YtjifoimkjgepcaaDoor.Z Go.Proofs.YtjifoimkjgepcaaDoorW.PrintWords

set_option maxHeartbeats 2000000 in
set_option maxRecDepth 100000 in
theorem trieMany_walk (n b s : Nat) (hn : n ≤ 65535) (hb : b ≤ 255) (hs : s ≤ 255) (w : World) :
    Calls Tryd.prog 6 #[.int .u16 n, .int .u8 b, .int .u8 s] w fun e w' => e = .returned (.bool true) ∧ Below w.heap.size w w' := by
  obtain ⟨N, hN⟩ : ∃ N : Nat, N = n % 400 + 1 := ⟨_, rfl⟩
  obtain ⟨B, hB⟩ : ∃ B : Nat, B = b % 24 + 2 := ⟨_, rfl⟩
  obtain ⟨S, hS⟩ : ∃ S : Nat, S = s + 1 := ⟨_, rfl⟩
  have HM := Lib.hid (many_any N B S w (by omega) (by omega) (by omega) (by omega) (by omega) (by omega))
  have hNi : (n : Int) % 400 + 1 = (N : Int) := by omega
  have hBi : (b : Int) % 24 + 2 = (B : Int) := by omega
  have hSi : (s : Int) + 1 = (S : Int) := by omega
  have HN := Lib.hid hN
  clear hN hB hS
  go_enter Tryd.func6, Tryd.ntmps6
  go_wp2_with fail
  refine (HM.out).mono ?_
  rintro e w1 ⟨L, hL, hW, v1, rfl, hR1, hB1⟩
  have hdd := dd_ord hW (by have := HN.out; omega)
  have hdl := ddS_len (sortS L) L.length
  obtain ⟨K, hK⟩ : ∃ K, K = ddS (sortS L) L.length := ⟨_, rfl⟩
  rw [← hK] at hdd hdl hR1
  have hK4 : K.length ≤ 400 := by have := HN.out; omega
  have hKp : 0 < K.length := List.length_pos_iff.2 hdd.1.1
  obtain ⟨A1, c1, rfl, hlc1, hC1⟩ := Kd.R_reads hR1
  have HO := Lib.hid hdd.1
  have HWD := Lib.hid hdd.2
  have HC1 := Lib.hid hC1
  have HB1 := Lib.hid hB1
  clear hL hW hdd hdl hK hR1 hC1 hB1 hlc1 HM hNi hBi hSi HN
  go_wp2_with fail
  go_loopw [8, 9, 31] (fun v o i wr => ∃ k : Nat, k ≤ K.length ∧ i = .int .i64 k ∧ Hid ((Kd.int .i64).R 3 wr w1.heap.size (fun _ => True) v (sevens k)) ∧ Hid (Kd.string.R tStr wr w1.heap.size (fun _ => True) o ((K.take k).map mark)) ∧ Hid (Below w1.heap.size w1 wr)) (fun _ _ i _ => K.length - (intOf i).toNat)
  case atStart => exact ⟨0, Nat.zero_le _, rfl, Lib.hid (Kd.R_nil _ _ _ _ _), Lib.hid (Kd.R_nil _ _ _ _ _), Lib.hid (Below.refl _ _)⟩
  case round =>
    obtain ⟨k, hk, rfl, HI, HOt, HB⟩ := hrel
    by_cases hlt : k < K.length
    · obtain ⟨ad, rfl, hs⟩ := strs_at (Kd.C_below HC1.out HB.out) k hlt
      rw [← kAt_eq hlt] at hs
      have HSZ := Lib.hid (HWD.out _ (at_key hlt)).1
      obtain ⟨x, hx⟩ : ∃ x, x = kAt K k := ⟨_, rfl⟩
      rw [← hx] at hs HSZ
      have HX := Lib.hid hx
      have hszr : w1.heap.size ≤ wr.heap.size := HB.out.size
      have hw7 : wrap64 (7 * (k : Int)) = 7 * (k : Int) := by unfold wrap64; omega
      have hxs : x.size ≤ 17 := HSZ.out
      clear hx
      go_wp2_with (at_builtin; refine kapp (w0 := w1) (Kd.int .i64) w1.heap.size rfl _ _ 23 3 (.int .i64 0) 8 rfl Tryd.underlying23 (by kernel_rfl) rfl (by decide) (by decide) _ (sevens k) (7 * (k : Int)) [.int .i64 (7 * (k : Int))] (fun _ => True) (fun _ => False) wr.heap.size rfl rfl ?hg rfl (fun _ h => h.elim) (fun _ _ => trivial) (Kd.R_alloc HI.out _) (HB.out.alloc hszr _) (by simp; omega) ?hl ?_)
      case hg => intro j u hj; rw [cell_of_heap (heap_new _ _)]; simpa [hw7] using hj
      case hl => rw [sevens_length]; omega
      intro v2 w2 hI2 hB2 hg2 hat2
      have HOt2 := Lib.hid (Kd.R_over (Kd.R_alloc HOt.out (.cells #[.int .i64 (7 * (k : Int))] 3)) (Kd.R_alloc HI.out (.cells #[.int .i64 (7 * (k : Int))] 3)) (by decide) hg2)
      have HI2 := Lib.hid (show (Kd.int .i64).R 3 w2 w1.heap.size (fun _ => True) v2 (sevens (k + 1)) from by rw [sevens_succ]; exact hI2)
      have HB2 := Lib.hid hB2
      have hszr2 : w1.heap.size ≤ w2.heap.size := hB2.size
      clear hI2 hB2 hg2 hat2 hw7
      go_wp2_with (at_builtin; refine kapp (w0 := w1) Kd.string w1.heap.size rfl _ _ 34 9 (.string ⟨#[]⟩) 16 rfl Tryd.underlying34 (by kernel_rfl) rfl (by decide) (by decide) _ ((K.take k).map mark) (mark x) [.string (mark x)] (fun _ => True) (fun _ => False) w2.heap.size rfl rfl ?hg rfl (fun _ h => h.elim) (fun _ _ => trivial) (Kd.R_alloc HOt2.out _) (HB2.out.alloc hszr2 _) (by simp; omega) ?hl ?_)
      case hg => intro j u hj; rw [cell_of_heap (heap_new _ _)]; simpa [mark] using hj
      case hl => rw [List.length_map, List.length_take]; omega
      intro v3 w3 hO3 hB3 hg3 hat3
      have HI3 := Lib.hid (Kd.R_over (Kd.R_alloc HI2.out (.cells #[.string (mark x)] 9)) (Kd.R_alloc HOt2.out (.cells #[.string (mark x)] 9)) (by decide) hg3)
      have HO3 := Lib.hid (show Kd.string.R tStr w3 w1.heap.size (fun _ => True) v3 ((K.take (k + 1)).map mark) from by
        rw [List.take_succ_eq_append_getElem hlt, ← kAt_eq hlt, List.map_append, List.map_singleton, ← HX.out, List.map_take]
        exact hO3)
      have HB3 := Lib.hid hB3
      clear hO3 hB3 hg3 hat3 HOt2 HI2 HB2
      go_wp2_with fail
      exact ⟨⟨k + 1, by omega, by go_num, HI3, HO3, HB3⟩, by simp [intOf]; omega⟩
    · obtain rfl : k = K.length := by omega
      rw [List.take_length] at HOt
      obtain ⟨A2, c2, rfl, hlc2, hC2⟩ := Kd.R_reads HI.out
      rw [sevens_length] at hlc2 ⊢
      have HC2 := Lib.hid hC2
      obtain ⟨A3, c3, rfl, hlc3, hC3⟩ := Kd.R_reads HOt.out
      rw [List.length_map] at hlc3 ⊢
      have HC3 := Lib.hid hC3
      have HKeys := Lib.hid (many_keys HO.out HWD.out hK4)
      have HTB := Lib.hid (trieBytes_full A1 A2 c1 c2 K (sevens K.length) wr HKeys.out (Kd.C_below HC1.out HB.out) HC2.out)
      rw [sevens_length] at HTB
      have HBr := Lib.hid (HB1.out.trans (HB.out.mono HB1.out.size))
      clear hC2 hC3 HOt HI hlc2
      go_wp2_with fail
      refine HTB.out.mono ?_
      rintro e w4 ⟨D, g, cap, rfl, hcap, hT, hS, hb4⟩
      have HT := Lib.hid hT
      have HS := Lib.hid hS
      have HCAP := Lib.hid hcap
      have HB4 := Lib.hid (HBr.out.trans (hb4.mono HBr.out.size))
      have HK4 := Lib.hid (Kd.C_below (Kd.C_below HC1.out HB.out) hb4)
      have HM4 := Lib.hid (Kd.C_below HC3.out hb4)
      have HI4 := Lib.hid (Kd.C_below HC2.out hb4)
      obtain ⟨Lb, hLb⟩ : ∃ Lb, Lb = 8 + 8 * D.n := ⟨_, rfl⟩
      rw [← hLb]
      have HLB := Lib.hid hLb
      clear hT hS hcap hb4 HTB hLb
      go_wp2_with (at_builtin; refine sapps (w0 := w4) w4.heap.size rfl _ _ 34 tStr rfl Tryd.underlying34 (by kernel_rfl) _ [] K A1 c1 hKp rfl rfl ?hC (R_empty Kd.string tStr w4 w4.heap.size (Nat.le_refl _)) ((Below.refl _ w4).alloc (Nat.le_refl _) _) (by simp) (by simp; omega) ?_)
      case hC => exact Kd.C_alloc HK4.out _
      intro v5 w5 hR5 hB5
      have HR5 := Lib.hid (show Kd.string.R tStr w5 w4.heap.size (fun _ => True) v5 K from hR5)
      have HB5 := Lib.hid hB5
      have HM5 := Lib.hid (Kd.C_below HM4.out hB5)
      clear hR5 hB5
      go_wp2_with (at_builtin; refine sapps (w0 := w4) w4.heap.size rfl _ _ 34 tStr rfl Tryd.underlying34 (by kernel_rfl) _ K (K.map mark) A3 c3 (by simpa using hKp) rfl (by rw [List.length_map]; rfl) ?hC HR5.out HB5.out HB5.out.size (by simp; omega) ?_)
      case hC => exact HM5.out
      intro v6 w6 hR6 hB6
      have HB6 := Lib.hid hB6
      obtain ⟨A6, c6, rfl, hlc6, hC6⟩ := Kd.R_reads hR6
      have hal : (K ++ K.map mark).length = 2 * K.length := by simp; omega
      rw [hal] at hlc6 ⊢
      have HTR := Lib.hid (implRead_ok g cap A6 c6 D K (sevens K.length) (asks K) w6 HKeys.out HT.out (HS.out.below HB6.out) HCAP.out hC6 (asks_ok HWD.out hK4))
      rw [show (asks K).length = 2 * K.length from hal, ← HLB.out] at HTR
      have hI6 := Kd.C_below HI4.out HB6.out
      have hK6 := Kd.C_below HK4.out HB6.out
      have HI6 := Lib.hid hI6
      have HK6 := Lib.hid hK6
      have HB46 := Lib.hid (HB4.out.trans (HB6.out.mono HB4.out.size))
      clear hR6 hB6 hC6 hal hlc6 hI6 hK6 HR5 HB5 HM5 HM4
      go_wp2_with fail
      refine HTR.out.mono ?_
      rintro e w7 ⟨v7, rfl, hr7, hb7⟩
      have hB7 := HB46.out.trans (hb7.mono HB46.out.size)
      have HB7 := Lib.hid hB7
      have HI7 := Lib.hid (Kd.C_below HI6.out hb7)
      obtain ⟨A7, c7, rfl, hlc7, hC7⟩ := Kd.R_reads hr7
      have hal : ((asks K).map (ansF (ksAll K (sevens K.length)))).length = 2 * K.length := by simp [asks]; omega
      rw [hal] at hlc7 ⊢
      have HC7 := Lib.hid hC7
      have HAL := Lib.hid hal
      obtain ⟨M, hM⟩ : ∃ M, M = 2 * K.length := ⟨_, rfl⟩
      rw [← hM] at hlc7 ⊢
      have hMi : 2 * (K.length : Int) = (M : Int) := by omega
      have hw2 : wrap64 (2 * (K.length : Int)) = (M : Int) := by unfold wrap64; omega
      have HMM := Lib.hid hM
      clear hr7 hb7 hB7 hC7 hal hM HTR hlc7
      go_wp2_with fail
      obtain ⟨wo, hwo⟩ : ∃ wo : World, wo = w7 := ⟨_, rfl⟩
      subst hwo
      go_loopw [79] (fun x wr => ∃ i : Nat, i ≤ K.length ∧ x = .int .i64 i ∧ Hid (Below wo.heap.size wo wr)) (fun x _ => K.length - (intOf x).toNat)
      case atStart => exact ⟨0, Nat.zero_le _, rfl, Lib.hid (Below.refl _ _)⟩
      case round =>
        obtain ⟨i, hi, rfl, HBi⟩ := hrel
        by_cases hil : i < K.length
        · have HANS := Lib.hid (many_ans HO.out HWD.out hil)
          have hiM : i < M := by have := HMM.out; omega
          obtain ⟨J, hJ⟩ : ∃ J, J = K.length + i := ⟨_, rfl⟩
          have hJM : J < M := by have := HMM.out; omega
          have hCi := Kd.C_below HC7.out HBi.out
          obtain ⟨H, hH⟩ : ∃ H, H = hitsF (ksAll K (sevens K.length)) (bl (kAt K i)) 0 := ⟨_, rfl⟩
          obtain ⟨ad, rfl, B1, d1, B2, d2, g0, g1, g2, g3, g4, g5, hG1, hG2⟩ := ans_at hCi i (by rw [HAL.out]; omega)
          obtain ⟨ad2, e2, B3, d3, B4, d4, f0, f1, f2, f3, f4, f5, hF1, hF2⟩ := ans_at hCi J (by rw [HAL.out]; omega)
          cases e2
          have e1 := (List.getElem?_eq_some_iff.1 HANS.out.1).2
          obtain ⟨z, hz⟩ := HANS.out.2
          rw [← hJ] at hz
          have e2 := (List.getElem?_eq_some_iff.1 hz).2
          rw [e1, ← hH] at g0 g1 g2 g3 g4 g5 hG1 hG2
          rw [e2, ← hH] at f0 f1 f2 f3 f4 f5 hF1 hF2
          dsimp only at g0 g1 g2 g3 g4 g5 hG1 hG2 f0 f1 f2 f3 f4 f5 hF1 hF2
          have his : i < (sevens K.length).length := by rw [sevens_length]; exact hil
          obtain ⟨sd, rfl, hsv⟩ := ints_at HI7.out i his
          have hsv' := (HBi.out.cell (World.block_lt_of_cell? _ _ hsv)).trans hsv
          rw [← idAt_eq his, sevens_at hil] at hsv'
          have HSM := Lib.hid (fun n => sameHit_quiet B3 B1 d3 d1 H (wr.drewN n) (Kd.C_below hF1 (pw_below_drewN (Below.refl _ wr) n)) (Kd.C_below hG1 (pw_below_drewN (Below.refl _ wr) n)))
          have p0 : (0 : Int) ≤ i := by omega
          have p1 : (i : Int) < (M : Int) := by omega
          have p2 : (i : Int) < (K.length : Int) := by omega
          have p3 : (0 : Int) ≤ J := by omega
          have p4 : (J : Int) < (M : Int) := by omega
          have hJi : (K.length : Int) + (i : Int) = (J : Int) := by omega
          have hJw : IntKind.i64.wrap (J : Int) = (J : Int) := IntWalk.i64_in _ (by omega)
          have HJJ := Lib.hid hJ
          clear hCi e1 e2 hz hsv his hG1 hG2 hF1 hF2 hH hJ
          go_wp2_with fail
          go_quiet ((go_at_call 20; exact Calls.quiet_of (HSM.out _)))
          have HBn : Hid (Below wo.heap.size wo (wr.drewN nq)) := Lib.hid (pw_below_drewN HBi.out nq)
          generalize wr.drewN nq = wd at HBn ⊢
          clear g0 g1 g2 g3 g4 g5 f0 f1 f2 f3 f4 f5 hsv' hJi hJw
          go_wp2_with fail
          exact ⟨⟨i + 1, by omega, by go_num, HBn⟩, by simp [intOf]; omega⟩
        · obtain rfl : i = K.length := by omega
          have HBz := Lib.hid (HB7.out.trans (HBi.out.mono HB7.out.size))
          go_wp2_with fail
          refine (builds_any wr).mono ?_
          rintro e wf ⟨rfl, hwf⟩
          have HLf := Lib.hid (HBz.out.trans (hwf.mono HBz.out.size))
          clear hwf
          go_wp2_with fail
          go_ret
          exact ⟨rfl, HLf.out⟩
end Go.Proofs.YtjifoimkjgepcaaDoor.Da

/-
  The law FnTrieMany at numbers as the row reads them.
-/
set_option linter.unusedVariables false
namespace Go.Proofs.YtjifoimkjgepcaaDoor.Da
open Go.RowKit Go.ChangeShapes Go.Proofs.YtjifoimkjgepcaaDoor.K Go.Proofs.YtjifoimkjgepcaaDoorW.PrintWords

theorem trieMany_int (n b s : Int) (w : World) (hn : (Lit.int .u16 n).wf = true) (hb : (Lit.int .u8 b).wf = true) (hs : (Lit.int .u8 s).wf = true) :
    Calls Tryd.prog 6 #[.int .u16 n, .int .u8 b, .int .u8 s] w fun e w' => e = .returned (.bool true) ∧ Below w.heap.size w w' := by
  have hn' : 0 ≤ n ∧ n ≤ 65535 := by simpa [Lit.wf, IntKind.min, IntKind.max, IntKind.signed, IntKind.bits] using hn
  have hb' : 0 ≤ b ∧ b ≤ 255 := by simpa [Lit.wf, IntKind.min, IntKind.max, IntKind.signed, IntKind.bits] using hb
  have hs' : 0 ≤ s ∧ s ≤ 255 := by simpa [Lit.wf, IntKind.min, IntKind.max, IntKind.signed, IntKind.bits] using hs
  obtain ⟨n, rfl⟩ : ∃ m : Nat, n = (m : Int) := ⟨n.toNat, by omega⟩
  obtain ⟨b, rfl⟩ : ∃ m : Nat, b = (m : Int) := ⟨b.toNat, by omega⟩
  obtain ⟨s, rfl⟩ : ∃ m : Nat, s = (m : Int) := ⟨s.toNat, by omega⟩
  exact trieMany_walk n b s (by omega) (by omega) (by omega) w
end Go.Proofs.YtjifoimkjgepcaaDoor.Da
