/-
  few at one list and at two; the walk of laws.FnTrieEmpty.
-/
import Derived.Test.YtjifoimkjgepcaaEf
set_option linter.unusedVariables false
set_option linter.unusedSimpArgs false
namespace Go.Proofs.Ytjifoimkjgepcaa.Da
open Go.RowKit Go.ChangeShapes Go.Proofs.Ytjifoimkjgepcaa.K Go.Proofs.YtjifoimkjgepcaaW.PrintWords

theorem few_one (A : Option Addr) (c : Nat) (keys : List ByteArray) (w : World) (hC : Kd.string.C w A keys.length keys) (hc : keys.length ≤ c) (hf : fits3 keys) :
    Calls Try.prog 19 #[.slice (some ⟨w.heap.size, 0, none⟩) 1 1] (w.alloc (.cells #[.slice A keys.length c] 28)) (BoolIf (sumL keys ≤ 4000) w) := by
  have hD : (Kd.slice 9 Kd.string).C (w.alloc (.cells #[.slice A keys.length c] 28)) (some ⟨w.heap.size, 0, none⟩) [keys].length [keys] :=
    C_of_block (cs := [.slice A keys.length c]) (heap_new w _) ((Reps.none _ _).snoc ⟨A, c, rfl, hc, Kd.C_alloc hC _⟩ rfl) (by simp)
  have hs := sumL_fits hf
  refine (few_sum _ 1 [keys] _ hD (by simp only [sumLL]; omega)).mono ?_
  rintro e w' ⟨b, rfl, hb, hw⟩
  exact ⟨b, rfl, fun h => by have := hb h; simp only [sumLL] at this; omega, ((Below.refl _ w).alloc (Nat.le_refl _) _).trans (hw.mono (by simp))⟩
theorem few_two (b : Nat) (A B : Option Addr) (c d : Nat) (keys xs : List ByteArray) (w : World) (hC : Kd.string.C w A keys.length keys) (hc : keys.length ≤ c) (hf : fits3 keys) (hX : Kd.string.C w B xs.length xs) (hd : xs.length ≤ d) (hg : fits3 xs) (hb : b = w.heap.size) :
    Calls Try.prog 19 #[.slice (some ⟨b, 0, none⟩) 2 2] (w.alloc (.cells #[.slice A keys.length c, .slice B xs.length d] 28)) (BoolIf (sumL keys + sumL xs ≤ 4000) w) := by
  subst hb
  have k1 : (Kd.slice 9 Kd.string).K (w.alloc (.cells #[.slice A keys.length c, .slice B xs.length d] 28)) keys [.slice A keys.length c] := ⟨A, c, rfl, hc, Kd.C_alloc hC _⟩
  have k2 : (Kd.slice 9 Kd.string).K (w.alloc (.cells #[.slice A keys.length c, .slice B xs.length d] 28)) xs [.slice B xs.length d] := ⟨B, d, rfl, hd, Kd.C_alloc hX _⟩
  have hD : (Kd.slice 9 Kd.string).C (w.alloc (.cells #[.slice A keys.length c, .slice B xs.length d] 28)) (some ⟨w.heap.size, 0, none⟩) [keys, xs].length [keys, xs] :=
    C_of_block (cs := [.slice A keys.length c, .slice B xs.length d]) (heap_new w _) (((Reps.none _ _).snoc k1 rfl).snoc k2 rfl) (by simp)
  have hs := sumL_fits hf
  have ht := sumL_fits hg
  refine (few_sum _ 2 [keys, xs] _ hD (by simp only [sumLL]; omega)).mono ?_
  rintro e w' ⟨b, rfl, hb, hw⟩
  exact ⟨b, rfl, fun h => by have := hb h; simp only [sumLL] at this; omega, ((Below.refl _ w).alloc (Nat.le_refl _) _).trans (hw.mono (by simp))⟩

set_option maxHeartbeats 2000000 in
set_option maxRecDepth 100000 in
theorem trieEmpty_walk (Ak Ai : Option Addr) (ck ci : Nat) (keys : List ByteArray) (ids : List Int) (w : World) (hkC : Kd.string.C w Ak keys.length keys) (hkc : keys.length ≤ ck) (hiC : (Kd.int .i64).C w Ai ids.length ids) :
    Calls Try.prog 5 #[.slice Ak keys.length ck, .slice Ai ids.length ci] w fun e w' => e = .returned (.bool true) ∧ Below w.heap.size w w' := by
  have HKC := Lib.hid hkC
  have HIC := Lib.hid hiC
  have HKc := Lib.hid hkc
  clear hkC hiC hkc
  go_enter Try.func5, Try.ntmps5
  go_wp2_with fail
  refine (zzFits3_any Ak ck keys w HKC.out).mono ?_
  rintro e w1 ⟨b, rfl, hb, hw1⟩
  have HF := Lib.hid hb
  have HL1 := Lib.hid hw1
  clear hb hw1
  cases b
  · go_wp2
    go_ret
    exact ⟨rfl, HL1.out⟩
  by_cases hbig : 2147483647 < (ids.length : Int)
  · go_wp2
    go_ret
    exact ⟨rfl, HL1.out⟩
  have HFT := Lib.hid (HF.out rfl)
  have hkl := HFT.out.1
  go_wp2_with fail
  refine (few_one Ak ck keys w1 (Kd.C_below HKC.out HL1.out) HKc.out HFT.out).mono ?_
  rintro e w2 ⟨b2, rfl, hb2, hw2⟩
  have HS := Lib.hid hb2
  have HL2 := Lib.hid (HL1.out.trans (hw2.mono HL1.out.size))
  clear hb2 hw2
  cases b2
  · go_wp2_with fail
    refine (builds_any w2).mono ?_
    rintro e w3 ⟨rfl, hw3⟩
    have HL3 := Lib.hid (HL2.out.trans (hw3.mono HL2.out.size))
    clear hw3
    go_wp2_with fail
    go_ret
    exact ⟨rfl, HL3.out⟩
  go_wp2_with fail
  refine (ordered_any Ak ck keys false w2 (Kd.C_below HKC.out HL2.out) HFT.out).mono ?_
  rintro e w3 ⟨b3, rfl, hb3, hw3⟩
  have HO := Lib.hid hb3
  have HL3 := Lib.hid (HL2.out.trans (hw3.mono HL2.out.size))
  clear hb3 hw3
  cases b3
  · go_wp2_with fail
    refine (builds_any w3).mono ?_
    rintro e w4 ⟨rfl, hw4⟩
    have HL4 := Lib.hid (HL3.out.trans (hw4.mono HL3.out.size))
    clear hw4
    go_wp2_with fail
    go_ret
    exact ⟨rfl, HL4.out⟩
  go_wp2_with fail
  refine (goodIDs_any Ai ci ids keys.length w3 (Kd.C_below HIC.out HL3.out) hkl).mono ?_
  rintro e w4 ⟨b4, rfl, hb4, rfl⟩
  have HG := Lib.hid hb4
  clear hb4
  cases b4
  · go_wp2_with fail
    refine (builds_any w4).mono ?_
    rintro e w5 ⟨rfl, hw5⟩
    have HL5 := Lib.hid (HL3.out.trans (hw5.mono HL3.out.size))
    clear hw5
    go_wp2_with fail
    go_ret
    exact ⟨rfl, HL5.out⟩
  have HK := Lib.hid (keys_of (HO.out.1 trivial) (HG.out rfl).1 (HG.out rfl).2 (HS.out trivial))
  go_wp2_with fail
  refine (lawTrie_any Ak Ai ck ci keys ids ByteArray.empty w4 HK.out (Kd.C_below HKC.out HL3.out) (Kd.C_below HIC.out HL3.out) (by intro a ha; cases ha) (by decide)).mono ?_
  rintro e w5 ⟨A1, c1, A2, c2, rfl, hC1, hC2, hw5⟩
  have HL5 := Lib.hid (HL3.out.trans (hw5.mono HL3.out.size))
  clear hC1 hC2 hw5
  have ha : ansF (ksAll keys ids) ByteArray.empty = ((0, false), (0, false), [], []) := rfl
  rw [ha]
  dsimp only [List.length_nil]
  go_wp2_with fail
  refine (builds_any _).mono ?_
  rintro e w6 ⟨rfl, hw6⟩
  have HL6 := Lib.hid ((HL5.out.alloc HL5.out.size _).trans (hw6.mono (by have := HL5.out.size; simp; omega)))
  clear hw6
  go_wp2_with fail
  go_ret
  exact ⟨rfl, HL6.out⟩
end Go.Proofs.Ytjifoimkjgepcaa.Da
