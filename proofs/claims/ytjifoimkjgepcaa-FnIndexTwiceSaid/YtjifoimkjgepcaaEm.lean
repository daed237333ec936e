/-
  BuildWithIDs, Trie and TrieBytes where there are other numbers of identifiers than of keys; the walk of laws.FnTrieArg.
-/
import Derived.Test.YtjifoimkjgepcaaEg
import Derived.Test.YtjifoimkjgepcaaGd
set_option linter.unusedVariables false
set_option linter.unusedSimpArgs false
namespace Go.Proofs.Ytjifoimkjgepcaa.Da
open Go.RowKit Go.ChangeShapes Go.Proofs.Ytjifoimkjgepcaa.K Go.Proofs.YtjifoimkjgepcaaW.PrintWords

theorem errNew_any (s : ByteArray) (w : World) : Calls Try.prog 63 #[.string s] w fun e w' => e = .returned (.iface 152 (.pointer (some ⟨w.heap.size, 0, none⟩))) ∧ Below w.heap.size w w' := by
  go_enter Try.func63, Try.ntmps63
  go_wp2
  go_ret
  exact ⟨by simp, (Below.refl _ _).alloc (Nat.le_refl _) _⟩
/-- An error is told. -/
def ErrRet (w : World) (e : Ending) (w' : World) : Prop := ∃ A n c p, e = .returned (.tuple #[.slice A n c, .iface 152 (.pointer p)]) ∧ Below w.heap.size w w'
set_option maxHeartbeats 2000000 in
set_option maxRecDepth 100000 in
theorem buildArg_any (A B : Option Addr) (n m ck ci : Nat) (w : World) (hne : n ≠ m) :
    Calls Try.prog 45 #[.slice A n ck, .slice B m ci] w (ErrRet w) := by
  go_enter Try.func45, Try.ntmps45
  go_wp2_with fail
  obtain ⟨w1, hw1⟩ : ∃ w1, w1 = (w.alloc (.cells #[] tEl)).alloc (.cells #[.slice (some ⟨w.heap.size, 0, none⟩) 0 0] tDA) := ⟨_, rfl⟩
  obtain ⟨dp, hdp⟩ : ∃ dp, dp = w.heap.size + 1 := ⟨_, rfl⟩
  have hd1 : w1.heap[dp]? = some (.cells #[.slice (some ⟨w.heap.size, 0, none⟩) 0 0] tDA (0, 0)) := by
    subst hw1 hdp
    have := heap_new (w.alloc (.cells #[] tEl)) (.cells #[.slice (some ⟨w.heap.size, 0, none⟩) 0 0] tDA)
    rw [size_alloc] at this
    exact this
  have hb1 : Below w.heap.size w w1 := by subst hw1; exact ((Below.refl _ _).alloc (Nat.le_refl _) _).alloc (by simp) _
  have hs1 : w1.heap.size = w.heap.size + 2 := by subst hw1; simp
  have HB1 := Lib.hid hb1
  have HS1 := Lib.hid hs1
  have HDP := Lib.hid hdp
  have HI := Lib.hid (init_any dp _ w1 hd1)
  rw [← hdp]
  refine (show Calls _ _ _ w1 _ → _ from fun h => by rw [← hw1]; exact h) ?_
  clear hw1 hdp hd1 hb1 hs1
  refine HI.out.mono ?_
  rintro e w2 ⟨rfl, g2, ha2, hg2, hk2⟩
  have HB2 : Hid (Below w.heap.size w w2) := Lib.hid (HB1.out.trans (hk2.below (by have := HDP.out; omega) (by have := HS1.out; omega) (by have := HS1.out; omega)))
  have hcd : w2.cell? ⟨dp, 0, none⟩ = some (.slice (some ⟨g2, 0, none⟩) 51200 51200) := by
    rw [cell_of_heap ha2.var]
    rfl
  clear ha2 hg2 hk2 HI
  have hn : ((n : Int) != (m : Int)) = true := by simp; omega
  go_upto_region 4 with fail
  refine Gd.WT_start (by as_aux_lemma => kernel_rfl) (by as_aux_lemma => kernel_rfl) (by as_aux_lemma => kernel_rfl) (fun _ _ _ _ h => h) ?_
  have HD := Lib.hid (show w2.drew.cell? ⟨dp, 0, none⟩ = some (.slice (some ⟨g2, 0, none⟩) 51200 51200) from hcd)
  have HBD := Lib.hid HB2.out.drew
  generalize w2.drew = wd at HD HBD ⊢
  clear hcd
  refine ⟨(fun w' : World => w'.cell? ⟨dp, 0, none⟩ = some (.slice (some ⟨g2, 0, none⟩) 51200 51200) ∧ Below w.heap.size w w'), ⟨HD.out, HBD.out⟩, fun hHeld => ?_⟩
  refine Gd.WT_take 0 (v := ?_) (by simp only [List.getElem?_toArray, List.getElem?_cons_succ, List.getElem?_cons_zero]; rfl) (Or.inl ⟨by rfl, ?_⟩) (by assumption) ?_
  rotate_left
  · ((intro w hSw; (try dsimp only at hSw); go_simp); (try with_reducible rfl))
  try simp only [Act.put, List.foldl_cons, List.foldl_nil, List.setIfInBounds_toArray, List.set_cons_zero, List.set_cons_succ]
  refine Gd.WT_call 1 (by simp only [List.getElem?_toArray, List.getElem?_cons_succ, List.getElem?_cons_zero]; rfl) (by as_aux_lemma => kernel_rfl) (fun K hK => ?_)
  go_simp
  (go_at_call 63; with_reducible refine (errNew_any _ wd).mono ?_)
  rintro e w3 ⟨rfl, hb3⟩
  have HD3 := Lib.hid ((hb3.cell (World.block_lt_of_cell? wd _ HD.out)).trans HD.out)
  have HB3 := Lib.hid (HBD.out.trans (hb3.mono HBD.out.size))
  clear hb3
  go_simp
  refine hK.out _ _ ?_ (fun hHeld => ?_)
  · exact ⟨HD3.out, HB3.out⟩
  clear hK K
  try simp only [Act.put, List.foldl_cons, List.foldl_nil, List.setIfInBounds_toArray, List.set_cons_zero, List.set_cons_succ]
  refine Gd.WT_take 2 (v := ?_) (by simp only [List.getElem?_toArray, List.getElem?_cons_succ, List.getElem?_cons_zero]; rfl) (Or.inl ⟨by rfl, ?_⟩) (by assumption) ?_
  rotate_left
  · ((intro w hSw; (try dsimp only at hSw); go_simp); (try with_reducible rfl))
  try simp only [Act.put, List.foldl_cons, List.foldl_nil, List.setIfInBounds_toArray, List.set_cons_zero, List.set_cons_succ]
  refine Gd.WT_take 3 (v := ?_) (by simp only [List.getElem?_toArray, List.getElem?_cons_succ, List.getElem?_cons_zero]; rfl) (Or.inl ⟨by rfl, ?_⟩) (by assumption) ?_
  rotate_left
  · ((intro w hSw; (try dsimp only at hSw); go_simp); (try with_reducible rfl))
  try simp only [Act.put, List.foldl_cons, List.foldl_nil, List.setIfInBounds_toArray, List.set_cons_zero, List.set_cons_succ]
  refine Gd.WT_end (by exact Nat.le_refl 4) ?_
  go_wp2_with fail
  go_ret2
  exact ⟨_, _, _, _, rfl, HB3.out⟩
/-- The argument is refused. -/
def Refused (w : World) (e : Ending) (w' : World) : Prop := e = .returned (.tuple #[.slice none 0 0, .int .i64 1]) ∧ Below w.heap.size w w'
set_option maxHeartbeats 1000000 in
set_option maxRecDepth 100000 in
theorem trieArg_any (Ak Ai : Option Addr) (ck ci : Nat) (keys : List ByteArray) (ids : List Int) (An : Option Addr) (n cn : Nat) (w : World) (hkC : Kd.string.C w Ak keys.length keys) (hiC : (Kd.int .i64).C w Ai ids.length ids) (hk : keys.length ≤ 4000) (hi : ids.length ≤ 4000) (hne : keys.length ≠ ids.length) :
    Calls Try.prog 24 #[.slice Ak keys.length ck, .slice Ai ids.length ci, .slice An n cn] w (Refused w) := by
  have HKC := Lib.hid hkC
  have HIC := Lib.hid hiC
  have HNE := Lib.hid hne
  clear hkC hiC hne
  go_enter Try.func24, Try.ntmps24
  go_wp2_with fail
  refine (clone_strs Ak ck keys w HKC.out (by omega)).mono ?_
  rintro e w1 ⟨v1, rfl, hr1, hb1⟩
  obtain ⟨A1, c1, rfl, -, -⟩ := Kd.R_reads hr1
  have HB1 := Lib.hid hb1
  clear hr1 hb1
  go_wp2_with fail
  refine (clone_ints Ai ci ids w1 (Kd.C_below HIC.out HB1.out) (by omega)).mono ?_
  rintro e w2 ⟨v2, rfl, hr2, hb2⟩
  obtain ⟨A2, c2, rfl, -, -⟩ := Kd.R_reads hr2
  have HB2 := Lib.hid (HB1.out.trans (hb2.mono HB1.out.size))
  clear hr2 hb2
  go_wp2_with fail
  refine (buildArg_any A1 A2 _ _ _ _ w2 HNE.out).mono ?_
  rintro e w3 ⟨A3, n3, c3, p3, rfl, hb3⟩
  have HB3 := Lib.hid (HB2.out.trans (hb3.mono HB2.out.size))
  clear hb3
  go_wp2_with fail
  go_ret2
  exact ⟨rfl, HB3.out⟩
set_option maxHeartbeats 1000000 in
set_option maxRecDepth 100000 in
theorem bytesArg_any (Ak Ai : Option Addr) (ck ci : Nat) (keys : List ByteArray) (ids : List Int) (q : Nat) (w : World) (hkC : Kd.string.C w Ak keys.length keys) (hiC : (Kd.int .i64).C w Ai ids.length ids) (hk : keys.length ≤ 4000) (hi : ids.length ≤ 4000) (hne : keys.length ≠ ids.length) :
    Calls Try.prog 33 #[.slice Ak keys.length ck, .slice Ai ids.length ci] w (Refused w) := by
  have HKC := Lib.hid hkC
  have HIC := Lib.hid hiC
  have HNE := Lib.hid hne
  clear hkC hiC hne
  go_enter Try.func33, Try.ntmps33
  go_wp2_with fail
  refine (clone_strs Ak ck keys w HKC.out (by omega)).mono ?_
  rintro e w1 ⟨v1, rfl, hr1, hb1⟩
  obtain ⟨A1, c1, rfl, -, -⟩ := Kd.R_reads hr1
  have HB1 := Lib.hid hb1
  clear hr1 hb1
  go_wp2_with fail
  refine (clone_ints Ai ci ids w1 (Kd.C_below HIC.out HB1.out) (by omega)).mono ?_
  rintro e w2 ⟨v2, rfl, hr2, hb2⟩
  obtain ⟨A2, c2, rfl, -, -⟩ := Kd.R_reads hr2
  have HB2 := Lib.hid (HB1.out.trans (hb2.mono HB1.out.size))
  clear hr2 hb2
  go_wp2_with fail
  refine (buildArg_any A1 A2 _ _ _ _ w2 HNE.out).mono ?_
  rintro e w3 ⟨A3, n3, c3, p3, rfl, hb3⟩
  have HB3 := Lib.hid (HB2.out.trans (hb3.mono HB2.out.size))
  clear hb3
  go_wp2_with fail
  go_ret2
  exact ⟨rfl, HB3.out⟩

set_option maxHeartbeats 2000000 in
set_option maxRecDepth 100000 in
theorem trieArgLaw_walk (Ak Ai : Option Addr) (ck ci : Nat) (keys : List ByteArray) (ids : List Int) (w : World) (hkC : Kd.string.C w Ak keys.length keys) (hkc : keys.length ≤ ck) (hiC : (Kd.int .i64).C w Ai ids.length ids) :
    Calls Try.prog 10 #[.slice Ak keys.length ck, .slice Ai ids.length ci] w fun e w' => e = .returned (.bool true) ∧ Below w.heap.size w w' := by
  have HKC := Lib.hid hkC
  have HIC := Lib.hid hiC
  have HKc := Lib.hid hkc
  clear hkC hiC hkc
  go_enter Try.func10, Try.ntmps10
  go_wp2_with fail
  refine (zzFits3_any Ak ck keys w HKC.out).mono ?_
  rintro e w1 ⟨b0, rfl, hb, hw⟩
  have HFT0 := Lib.hid hb
  have HL1 := Lib.hid hw
  clear hb hw
  cases b0
  · go_wp2
    go_ret
    exact ⟨rfl, HL1.out⟩
  have HFT := Lib.hid (HFT0.out (by trivial))
  by_cases hbig1 : 2147483647 < (ids.length : Int)
  · go_wp2
    go_ret
    exact ⟨rfl, HL1.out⟩
  have hkl := HFT.out.1
  go_wp2_with fail
  refine (few_one Ak ck keys w1 (Kd.C_below HKC.out HL1.out) HKc.out HFT.out).mono ?_
  rintro e w2 ⟨b3, rfl, hb, hw⟩
  have HS := Lib.hid hb
  have HL2 := Lib.hid (HL1.out.trans (hw.mono HL1.out.size))
  clear hb hw
  cases b3
  · go_wp2_with fail
    refine (builds_any w2).mono ?_
    rintro e wf ⟨rfl, hwf⟩
    have HLf := Lib.hid (HL2.out.trans (hwf.mono HL2.out.size))
    clear hwf
    go_wp2_with fail
    go_ret
    exact ⟨rfl, HLf.out⟩
  go_wp2_with fail
  refine (ordered_any Ak ck keys true w2 (Kd.C_below HKC.out HL2.out) HFT.out).mono ?_
  rintro e w3 ⟨b4, rfl, hb, hw⟩
  have HO := Lib.hid hb
  have HL3 := Lib.hid (HL2.out.trans (hw.mono HL2.out.size))
  clear hb hw
  cases b4
  · go_wp2_with fail
    refine (builds_any w3).mono ?_
    rintro e wf ⟨rfl, hwf⟩
    have HLf := Lib.hid (HL3.out.trans (hwf.mono HL3.out.size))
    clear hwf
    go_wp2_with fail
    go_ret
    exact ⟨rfl, HLf.out⟩
  by_cases hc5 : ids.length = keys.length
  · go_wp2_with fail
    refine (builds_any w3).mono ?_
    rintro e wf ⟨rfl, hwf⟩
    have HLf := Lib.hid (HL3.out.trans (hwf.mono HL3.out.size))
    clear hwf
    go_wp2_with fail
    go_ret
    exact ⟨rfl, HLf.out⟩
  by_cases hc6 : 100 < ids.length
  · go_wp2_with fail
    refine (builds_any w3).mono ?_
    rintro e wf ⟨rfl, hwf⟩
    have HLf := Lib.hid (HL3.out.trans (hwf.mono HL3.out.size))
    clear hwf
    go_wp2_with fail
    go_ret
    exact ⟨rfl, HLf.out⟩
  have hk4 : keys.length ≤ 4000 := Nat.le_trans (len_le_sum _) (HS.out (by trivial))
  have hi4 : ids.length ≤ 4000 := by omega
  have HNE : Hid (keys.length ≠ ids.length) := Lib.hid (fun e => hc5 e.symm)
  have hq5 : ((ids.length : Int) == (keys.length : Int)) = false := by rw [beq_eq_false_iff_ne]; omega
  have hq6 : decide ((100 : Int) < (ids.length : Int)) = false := decide_eq_false (by omega)
  go_wp2_with fail
  refine (trieArg_any Ak Ai ck ci keys ids none 0 0 w3 (Kd.C_below HKC.out HL3.out) (Kd.C_below HIC.out HL3.out) hk4 hi4 HNE.out).mono ?_
  rintro e wa ⟨rfl, hb⟩
  have HL4 := Lib.hid (HL3.out.trans (hb.mono HL3.out.size))
  clear hb
  go_wp2_with fail
  refine (bytesArg_any Ak Ai ck ci keys ids 0 wa (Kd.C_below HKC.out HL4.out) (Kd.C_below HIC.out HL4.out) hk4 hi4 HNE.out).mono ?_
  rintro e wb ⟨rfl, hb⟩
  have HL5 := Lib.hid (HL4.out.trans (hb.mono HL4.out.size))
  clear hb
  go_wp2_with fail
  refine (builds_any wb).mono ?_
  rintro e wf ⟨rfl, hwf⟩
  have HLf := Lib.hid (HL5.out.trans (hwf.mono HL5.out.size))
  clear hwf
  go_wp2_with fail
  go_ret
  exact ⟨rfl, HLf.out⟩
end Go.Proofs.Ytjifoimkjgepcaa.Da
