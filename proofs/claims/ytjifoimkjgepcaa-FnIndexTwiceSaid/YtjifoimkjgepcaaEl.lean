/-
  The walk of laws.FnTrieTwice.
-/
import Derived.Test.YtjifoimkjgepcaaEi
import Derived.Test.YtjifoimkjgepcaaEj
import Derived.Outline
import Derived.Deep.QuietTactic
import Derived.BigQuiet
set_option linter.unusedVariables false
set_option linter.unusedSimpArgs false
namespace Go.Proofs.Ytjifoimkjgepcaa.Da
open Go.RowKit Go.ChangeShapes Go.Proofs.Ytjifoimkjgepcaa.K Go.Proofs.YtjifoimkjgepcaaW.PrintWords

theorem ord_noZ {keys : List ByteArray} {st : Bool} (h : Ord keys st) {s : ByteArray} (hs : s ∈ keys) : noZ s := by
  obtain ⟨j, hj, rfl⟩ := key_at hs
  exact (h.2 j hj).2.1
theorem leL_antisymm : ∀ {x y : List Nat}, leL x y → leL y x → x = y
  | [], [], _, _ => rfl
  | [], _ :: _, _, h => by simp [leL] at h
  | _ :: _, [], h, _ => by simp [leL] at h
  | a :: x, b :: y, h1, h2 => by
    simp only [leL] at h1 h2
    rcases h1 with h1 | ⟨rfl, h1⟩
    · rcases h2 with h2 | ⟨rfl, h2⟩ <;> omega
    · rcases h2 with h2 | ⟨_, h2⟩
      · omega
      · rw [leL_antisymm h1 h2]
theorem firstE_find : ∀ ks : Ks, firstE ks = (ks.find? fun x => decide (x.1 = [])).map (·.2)
  | [] => rfl
  | ([], id) :: r => by simp [firstE]
  | (a :: s, id) :: r => by
    have := firstE_find r
    simp only [firstE, List.find?_cons]
    simpa using this
theorem find_tails (a : Nat) (s : List Nat) : ∀ ks : Ks, ((tails a ks).find? fun x => decide (x.1 = s)).map (·.2) = (ks.find? fun x => decide (x.1 = a :: s)).map (·.2)
  | [] => rfl
  | ([], id) :: r => by
    have := find_tails a s r
    have e : tails a (([], id) :: r) = tails a r := by simp [tails]
    rw [e, this]
    simp
  | (b :: t, id) :: r => by
    have ih := find_tails a s r
    by_cases hb : b = a
    · subst hb
      rw [tails_cons_hit]
      by_cases ht : t = s
      · subst ht; simp
      · simp only [List.find?_cons, ht, decide_false, List.cons.injEq, true_and]
        exact ih
    · have e : tails a ((b :: t, id) :: r) = tails a r := by simp [tails, hb]
      rw [e, ih]
      simp [hb]
theorem firstE_walk : ∀ (s : List Nat) (ks : Ks), firstE (walkK s ks) = (ks.find? fun x => decide (x.1 = s)).map (·.2)
  | [], ks => firstE_find ks
  | a :: s, ks => by rw [walkK, firstE_walk s, find_tails]
/-- Of equal keys the first identifier is found. -/
theorem find_first {keys : List ByteArray} {ids : List Int} {st : Bool} (ho : Ord keys st) {k f : Nat} (hk : k < keys.length) (hf : f ≤ k) (he : ∀ j, f ≤ j → j ≤ k → kAt keys j = kAt keys k) (hs : f = 0 ∨ kAt keys (f - 1) ≠ kAt keys k) :
    findF (ksAll keys ids) (bl (kAt keys k)) = (idAt ids f, true) := by
  have hne : ∀ j, j < f → kAt keys j ≠ kAt keys k := by
    intro j hj e
    rcases hs with rfl | hs
    · omega
    · apply hs
      have h1 := ho.le j (f - 1 - j) (by omega)
      have h2 := ho.le (f - 1) (k - (f - 1)) (by omega)
      rw [show j + (f - 1 - j) = f - 1 by omega] at h1
      rw [show f - 1 + (k - (f - 1)) = k by omega, ← e] at h2
      rw [← e]
      exact (bl_inj (leL_antisymm h1 h2)).symm
  have hfd : ((ksAll keys ids).find? fun x => decide (x.1 = bl (kAt keys k))) = some (bl (kAt keys f), idAt ids f) := by
    unfold ksAll ksOf
    rw [List.find?_map]
    have hr : (List.range keys.length).find? ((fun x : List Nat × Int => decide (x.1 = bl (kAt keys k))) ∘ fun j => ((bl (kAt keys j)).drop 0, idAt ids j)) = some f := by
      rw [List.find?_range_eq_some]
      refine ⟨by simp [he f (Nat.le_refl _) hf], by simp; omega, fun j hj => ?_⟩
      have := hne j hj
      simp only [Function.comp, List.drop_zero, Bool.not_eq_eq_eq_not, Bool.not_true, decide_eq_false_iff_not]
      exact fun e => this (bl_inj e)
    rw [hr]
    simp
  have hE : firstE (walkK (bl (kAt keys k)) (ksAll keys ids)) = some (idAt ids f) := by
    rw [firstE_walk, hfd]
    rfl
  unfold findF
  rw [if_neg (fun e => by have := (ho.2 k hk).1; rw [bl_nil e] at this; cases this), if_neg (fun e => by rw [e] at hE; cases hE), hE]
  rfl

set_option maxHeartbeats 4000000 in
set_option maxRecDepth 100000 in
theorem trieTwice_walk (Ak Ai : Option Addr) (ck ci : Nat) (keys : List ByteArray) (ids : List Int) (w : World) (hkC : Kd.string.C w Ak keys.length keys) (hkc : keys.length ≤ ck) (hiC : (Kd.int .i64).C w Ai ids.length ids) :
    Calls Try.prog 7 #[.slice Ak keys.length ck, .slice Ai ids.length ci] w fun e w' => e = .returned (.bool true) ∧ Below w.heap.size w w' := by
  have HKC := Lib.hid hkC
  have HIC := Lib.hid hiC
  have HKc := Lib.hid hkc
  clear hkC hiC hkc
  go_enter Try.func7, Try.ntmps7
  go_wp2_with fail
  refine (zzFits3_any Ak ck keys w HKC.out).mono ?_
  rintro e w1 ⟨b0, rfl, hb, hw⟩
  have HFT0 := Lib.hid hb
  have HL1 := Lib.hid hw
  clear hb hw
  cases b0
  · go_wp2
    go_ret
    exact ⟨rfl, HL1.out⟩
  have HFT := Lib.hid (HFT0.out (by trivial))
  by_cases hbig1 : 2147483647 < (ids.length : Int)
  · go_wp2
    go_ret
    exact ⟨rfl, HL1.out⟩
  have hkl := HFT.out.1
  go_wp2_with fail
  refine (few_one Ak ck keys w1 (Kd.C_below HKC.out HL1.out) HKc.out HFT.out).mono ?_
  rintro e w2 ⟨b3, rfl, hb, hw⟩
  have HS := Lib.hid hb
  have HL2 := Lib.hid (HL1.out.trans (hw.mono HL1.out.size))
  clear hb hw
  cases b3
  · go_wp2_with fail
    refine (builds_any w2).mono ?_
    rintro e wf ⟨rfl, hwf⟩
    have HLf := Lib.hid (HL2.out.trans (hwf.mono HL2.out.size))
    clear hwf
    go_wp2_with fail
    go_ret
    exact ⟨rfl, HLf.out⟩
  go_wp2_with fail
  refine (ordered_any Ak ck keys false w2 (Kd.C_below HKC.out HL2.out) HFT.out).mono ?_
  rintro e w3 ⟨b4, rfl, hb, hw⟩
  have HO := Lib.hid hb
  have HL3 := Lib.hid (HL2.out.trans (hw.mono HL2.out.size))
  clear hb hw
  cases b4
  · go_wp2_with fail
    refine (builds_any w3).mono ?_
    rintro e wf ⟨rfl, hwf⟩
    have HLf := Lib.hid (HL3.out.trans (hwf.mono HL3.out.size))
    clear hwf
    go_wp2_with fail
    go_ret
    exact ⟨rfl, HLf.out⟩
  go_wp2_with fail
  refine (goodIDs_any Ai ci ids keys.length w3 (Kd.C_below HIC.out HL3.out) hkl).mono ?_
  rintro e wq ⟨b5, rfl, hb, rfl⟩
  have HG := Lib.hid hb
  clear hb
  cases b5
  · go_wp2_with fail
    refine (builds_any wq).mono ?_
    rintro e wf ⟨rfl, hwf⟩
    have HLf := Lib.hid (HL3.out.trans (hwf.mono HL3.out.size))
    clear hwf
    go_wp2_with fail
    go_ret
    exact ⟨rfl, HLf.out⟩
  have HK := Lib.hid (keys_of (HO.out.1 (by trivial)) (HG.out (by trivial)).1 (HG.out (by trivial)).2 (HS.out (by trivial)))
  have HOR := Lib.hid (HO.out.1 (by trivial))
  have HIL := Lib.hid (HG.out (by trivial)).2
  have HIN : Hid (Asked keys) := Lib.hid ⟨HFT.out.1, fun s hs => ⟨ord_noZ HOR.out hs, HFT.out.2 s hs⟩⟩
  go_wp2_with fail
  refine (trie_any Ak Ai Ak ck ci ck keys ids keys wq HK.out (Kd.C_below HKC.out HL3.out) (Kd.C_below HIC.out HL3.out) (Kd.C_below HKC.out HL3.out) HIN.out).mono ?_
  rintro e wt ⟨v, rfl, hr, hb⟩
  obtain ⟨A, c, rfl, hl, hC⟩ := Kd.R_reads hr
  have HLt := Lib.hid (HL3.out.trans (hb.mono HL3.out.size))
  have HCt := Lib.hid hC
  clear hr hb hl hC
  have hll : (List.map (ansF (ksAll keys ids)) keys).length = keys.length := List.length_map _
  rw [hll] at HCt ⊢
  go_wp2_with fail
  have HBT := Lib.hid (Below.refl wt.heap.size wt)
  go_loopw [52, 7, 8] (fun i _ _ wr => ∃ k : Nat, k ≤ keys.length ∧ i = .int .i64 k ∧ Hid (Below wt.heap.size wt wr)) (fun i _ _ _ => keys.length - (intOf i).toNat)
  case atStart => exact ⟨0, Nat.zero_le _, rfl, HBT⟩
  case round =>
    obtain ⟨k, hk, rfl, HBR⟩ := hrel
    have HLR := Lib.hid (HLt.out.trans (HBR.out.mono HLt.out.size))
    by_cases hlt : k < keys.length
    · go_wp2_with fail
      obtain ⟨wo, hwo⟩ : ∃ wo : World, wo = wr := ⟨_, rfl⟩
      subst hwo
      go_loopw [8] (fun fv wi => ∃ f : Nat, f ≤ k ∧ fv = .int .i64 f ∧ Hid (∀ j, f ≤ j → j ≤ k → kAt keys j = kAt keys k) ∧ Hid (Below wo.heap.size wo wi)) (fun fv _ => (intOf fv).toNat)
      case atStart => exact ⟨k, Nat.le_refl _, rfl, Lib.hid (fun j h1 h2 => by rw [show j = k by omega]), Lib.hid (Below.refl _ _)⟩
      case round =>
        obtain ⟨f, hf, rfl, HE, HBI⟩ := hrel
        have HLI := Lib.hid (HLR.out.trans (HBI.out.mono HLR.out.size))
        obtain ⟨nd, rfl, hs⟩ := strs_at HKC.out k hlt
        have hs' := (HLI.out.cell (World.block_lt_of_cell? w _ hs)).trans hs
        obtain ⟨s, hS⟩ : ∃ s, s = keys[k] := ⟨_, rfl⟩
        rw [← hS] at hs'
        have HSK : Hid (kAt keys k = s) := Lib.hid (by rw [hS]; exact kAt_eq hlt)
        clear hs hS
        have p0 : (0 : Int) ≤ k := by omega
        have p1 : (k : Int) < (keys.length : Int) := by omega
        by_cases hstop : f = 0 ∨ kAt keys (f - 1) ≠ kAt keys k
        · have HFD : Hid ((ansF (ksAll keys ids) keys[k]).1 = (idAt ids f, true)) := Lib.hid (by
            have := find_first (ids := ids) HOR.out hlt hf HE.out hstop
            rw [kAt_eq hlt] at this
            exact this)
          have hfi : f < ids.length := by rw [HIL.out]; omega
          obtain ⟨id, rfl, hi⟩ := ints_at HIC.out f hfi
          have hi' := (HLI.out.cell (World.block_lt_of_cell? w _ hi)).trans hi
          rw [← idAt_eq hfi] at hi'
          clear hi
          obtain ⟨ad, rfl, A1, c1, A2, c2, g0, g1, -, -, -, -, -, -⟩ := ans_at (Kd.C_below (Kd.C_below HCt.out HBR.out) HBI.out) k (by rw [List.length_map]; exact hlt)
          rw [List.getElem_map, HFD.out] at g0 g1
          dsimp only at g0 g1
          obtain ⟨y, hy⟩ : ∃ y, idAt ids f = y := ⟨_, rfl⟩
          rw [hy] at g0 hi'
          have q0 : (0 : Int) ≤ f := by omega
          have q1 : (f : Int) < (ids.length : Int) := by omega
          have HBX := Lib.hid (HBR.out.trans (HBI.out.mono HBR.out.size))
          clear HE HFD hy
          rcases Nat.eq_zero_or_pos f with hf0 | hf0
          · have hg1 : decide ((0 : Int) < (f : Int)) = false := decide_eq_false (by omega)
            have hg2 : decide (0 < f) = false := decide_eq_false (by omega)
            clear hf0 hstop
            go_wp2
            go_quiet (fail)
            go_wp2
            go_quiet (fail)
            go_wp2
            exact ⟨⟨k + 1, by omega, by go_num, Lib.hid (pw_below_drewN HBX.out _)⟩, by simp [intOf]; omega⟩
          · have hg1 : decide ((0 : Int) < (f : Int)) = true := decide_eq_true (by omega)
            have hg2 : decide (0 < f) = true := decide_eq_true (by omega)
            obtain ⟨m, HM⟩ : ∃ m, Hid (m + 1 = f) := ⟨f - 1, Lib.hid (by omega)⟩
            have hsub : (f : Int) - 1 = (m : Int) := by have := HM.out; omega
            have hwm : IntKind.i64.wrap (m : Int) = (m : Int) := IntWalk.i64_in _ (by have := HM.out; omega)
            have hml : m < keys.length := by have := HM.out; omega
            obtain ⟨nd2, hnd, hs2⟩ := strs_at HKC.out m hml
            cases hnd
            have ht' := (HLI.out.cell (World.block_lt_of_cell? w _ hs2)).trans hs2
            have hne : (keys[m].toList == s.toList) = false := by
              rw [beq_eq_false_iff_ne]
              intro e
              rcases hstop with h | h
              · omega
              · apply h
                rw [show f - 1 = m by have := HM.out; omega, HSK.out, kAt_eq hml]
                exact ba_toList e
            obtain ⟨t, ht⟩ : ∃ t, t = keys[m] := ⟨_, rfl⟩
            rw [← ht] at ht' hne
            have r0 : (0 : Int) ≤ m := by omega
            have r1 : (m : Int) < (keys.length : Int) := by omega
            clear hf0 hstop hs2 ht
            go_wp2
            go_quiet (fail)
            go_wp2
            go_quiet (fail)
            go_wp2
            exact ⟨⟨k + 1, by omega, by go_num, Lib.hid (pw_below_drewN HBX.out _)⟩, by simp [intOf]; omega⟩
        · have hf0 : f ≠ 0 := fun e => hstop (.inl e)
          have hek : kAt keys (f - 1) = kAt keys k := Classical.byContradiction fun e => hstop (.inr e)
          have hg1 : decide ((0 : Int) < (f : Int)) = true := decide_eq_true (by omega)
          have hg2 : decide (0 < f) = true := decide_eq_true (by omega)
          obtain ⟨m, HM⟩ : ∃ m, Hid (m + 1 = f) := ⟨f - 1, Lib.hid (by omega)⟩
          have hsub : (f : Int) - 1 = (m : Int) := by have := HM.out; omega
          have hwm : IntKind.i64.wrap (m : Int) = (m : Int) := IntWalk.i64_in _ (by have := HM.out; omega)
          have hml : m < keys.length := by have := HM.out; omega
          rw [show f - 1 = m by have := HM.out; omega] at hek
          obtain ⟨nd2, hnd, hs2⟩ := strs_at HKC.out m hml
          cases hnd
          have ht' := (HLI.out.cell (World.block_lt_of_cell? w _ hs2)).trans hs2
          rw [← kAt_eq hml, hek, HSK.out] at ht'
          have HEK := Lib.hid hek
          have r0 : (0 : Int) ≤ m := by omega
          have r1 : (m : Int) < (keys.length : Int) := by omega
          clear hf0 hstop hs2 hek
          go_wp2
          go_quiet (fail)
          go_wp2
          refine ⟨⟨m, by have := HM.out; omega, by first | rfl | simp, Lib.hid (fun j h1 h2 => ?_), Lib.hid (pw_below_drewN HBI.out _)⟩, by have := HM.out; simp [intOf]; omega⟩
          by_cases e : j = m
          · rw [e]; exact HEK.out
          · exact HE.out j (by have := HM.out; omega) h2
    · go_wp2_with fail
      go_ret
      exact ⟨rfl, HLR.out⟩
end Go.Proofs.Ytjifoimkjgepcaa.Da
