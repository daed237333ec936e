/-
  The walk of laws.FnExactFilterText.
-/
import Derived.Test.YtjifoimkjgepcaaXk
import Derived.Test.YtjifoimkjgepcaaXl
import Derived.Test.YtjifoimkjgepcaaTakes
import Derived.Test.YtjifoimkjgepcaaFits
import Derived.Test.YtjifoimkjgepcaaOpenB
set_option linter.unusedVariables false
set_option linter.unusedSimpArgs false
namespace Go.Proofs.Ytjifoimkjgepcaa.Flt
open Go.RowKit Go.Proofs.Ytjifoimkjgepcaa.K Go.Proofs.Ytjifoimkjgepcaa.Fx Go.Proofs.Ytjifoimkjgepcaa.Da Go.Proofs.YtjifoimkjgepcaaW.PrintWords

theorem small_sum (A : Option Addr) (c : Nat) (xs : List (List ByteArray)) (w : World) (hC : (Kd.slice 9 Kd.string).C w A xs.length xs) (hs : sumLL xs ≤ 9223372036854775807) :
    Calls Try.prog 14 #[.slice A xs.length c] w (BoolIf (sumLL xs ≤ 4000) w) := by
  have hm := hC.2.1
  have HC := Lib.hid hC
  clear hC
  go_enter Try.func14, Try.ntmps14
  by_cases h : xs.length ≤ 30
  · go_wp2_with fail
    refine (few_sum A c xs w HC.out hs).mono ?_
    rintro e w1 ⟨b, rfl, hb, hw1⟩
    have HW := Lib.hid hw1
    have HB := Lib.hid hb
    clear hw1 hb
    go_wp2
    go_ret
    exact ⟨_, rfl, HB.out, HW.out⟩
  · go_wp2
    go_ret
    exact ⟨false, rfl, (fun h => absurd h (by decide)), Below.refl _ _⟩
theorem mem_sumLL {xs : List (List ByteArray)} {x : List ByteArray} (h : x ∈ xs) : sumL x ≤ sumLL xs := by
  induction xs with
  | nil => cases h
  | cons y r ih =>
    simp only [sumLL]
    rcases List.mem_cons.1 h with rfl | h
    · omega
    · have := ih h; omega
abbrev bN : ByteArray := ⟨#[110]⟩
theorem textN : (textT 0 (addAll [[bN]] (.mk []))) = [110, 10] := by rfl
set_option maxHeartbeats 1000000 in
set_option maxRecDepth 100000 in
theorem ftext_walk (A : Option Addr) (c : Nat) (fs : List (List ByteArray)) (w : World) (hC : (Kd.slice 9 Kd.string).C w A fs.length fs) (hs : sumLL fs ≤ 1048576) :
    Calls Try.prog 3 #[.slice A fs.length c] w fun e w' => e = .returned (.bool true) ∧ Below w.heap.size w w' := by
  have HC := Lib.hid hC
  have HS := Lib.hid hs
  clear hC hs
  go_enter Try.func3, Try.ntmps3
  go_wp2_with fail
  refine (zzFits6_any A c fs w HC.out).mono ?_
  rintro e w1 ⟨b1, rfl, hb, hw⟩
  have HF0 := Lib.hid hb
  have HL1 := Lib.hid hw
  clear hb hw
  cases b1
  · go_wp2_with fail
    go_ret
    exact ⟨rfl, HL1.out⟩
  have HF := Lib.hid (HF0.out (by trivial))
  have HC1 := Lib.hid (Kd.C_below HC.out HL1.out)
  go_wp2_with fail
  refine (small_sum A c fs w1 HC1.out (by have := HS.out; omega)).mono ?_
  rintro e w2 ⟨b2, rfl, hb, hw⟩
  have HB2 := Lib.hid hb
  have HL2 := Lib.hid (HL1.out.trans (hw.mono HL1.out.size))
  clear hb hw
  cases b2
  · go_wp2_with fail
    refine (takes_any w2).mono ?_
    rintro e w3 ⟨rfl, hw⟩
    have HL3 := Lib.hid (HL2.out.trans (hw.mono HL2.out.size))
    clear hw
    go_wp2_with fail
    go_ret
    exact ⟨rfl, HL3.out⟩
  have h4 := HB2.out rfl
  have hbd := addAll_bound fs (.mk []) h4
  have z1 : nT (.mk []) = 1 := by simp [nT, nK]
  have z2 : (textT 0 (.mk [])).length = 0 := by simp [textT, textK]
  have hfl := HF.out.1
  have hlen : ∀ x ∈ fs, x.length ≤ 4000 := fun x hx => by have := mem_sumLL hx; have := len_sumL x; omega
  have HIMP := Lib.hid (fun (W : World) (hW : (Kd.slice 9 Kd.string).C W A fs.length fs) => implText_any A c fs W hW (fun x hx => by have := hlen x hx; omega) (by omega) (by omega) (by omega))
  have HSP := Lib.hid (specText_any A c fs w2 (Kd.C_below HC.out HL2.out) (by omega) (fun x hx => by have := hlen x hx; unfold maxLen; omega) (by omega) (by omega))
  clear h4 hbd z1 z2 hfl hlen
  go_wp2_with fail
  refine HSP.out.mono ?_
  rintro e w3 ⟨⟨b, rfl⟩, hw⟩
  have HL3 := Lib.hid (HL2.out.trans (hw.mono HL2.out.size))
  clear hw HSP
  obtain ⟨X, hX⟩ : ∃ X : ByteArray, X = ⟨(textT 0 (addAll fs (.mk []))).toArray⟩ := ⟨_, rfl⟩
  rw [← hX] at HIMP ⊢
  have HX := Lib.hid hX
  clear hX
  have HLAST : Hid (∀ W : World, Calls Try.prog 17 #[.slice (some ⟨W.heap.size + 1, 0, none⟩) 1 1] ((W.alloc (.cells #[.string bN] 9)).alloc (.cells #[.slice (some ⟨W.heap.size, 0, none⟩) 1 1] 28)) fun e w' => e = .returned (.string ⟨#[110, 10]⟩) ∧ Below W.heap.size W w') := Lib.hid (fun W => by
    have hD : (Kd.slice 9 Kd.string).C ((W.alloc (.cells #[.string bN] 9)).alloc (.cells #[.slice (some ⟨W.heap.size, 0, none⟩) 1 1] 28)) (some ⟨W.heap.size + 1, 0, none⟩) [[bN]].length [[bN]] := by
      have hc0 : Kd.string.C (W.alloc (.cells #[.string bN] 9)) (some ⟨W.heap.size, 0, none⟩) [bN].length [bN] := C_of_block (cs := [.string bN]) (heap_new W _) (reps_strs _ [bN]) (by simp)
      have hh := heap_new (W.alloc (.cells #[.string bN] 9)) (.cells #[.slice (some ⟨W.heap.size, 0, none⟩) 1 1] 28)
      rw [size_alloc] at hh
      exact C_of_block (cs := [.slice (some ⟨W.heap.size, 0, none⟩) 1 1]) hh (reps_cons (c := [_]) (cs := []) ⟨_, _, rfl, by simp, Kd.C_alloc hc0 _⟩ rfl (Reps.none _ _)) (by simp)
    refine (implText_any _ 1 [[bN]] _ hD (by simp) (by simp) (by decide) (by rw [textN]; simp)).mono ?_
    rintro e w' ⟨rfl, hb⟩
    rw [textN]
    exact ⟨rfl, (((Below.refl _ W).alloc (Nat.le_refl _) _).alloc (by simp) _).trans (hb.mono (by simp; omega))⟩)
  cases b
  · go_wp2_with fail
    refine (takes_any w3).mono ?_
    rintro e w4 ⟨rfl, hw⟩
    have HL4 := Lib.hid (HL3.out.trans (hw.mono HL3.out.size))
    clear hw
    go_wp2_with fail
    refine (HLAST.out w4).mono ?_
    rintro e w5 ⟨rfl, hw⟩
    have HL5 := Lib.hid (HL4.out.trans (hw.mono HL4.out.size))
    clear hw
    go_wp2_with fail
    go_ret
    exact ⟨by first | rfl | simp, HL5.out⟩
  · go_wp2_with fail
    refine (HIMP.out w3 (Kd.C_below HC.out HL3.out)).mono ?_
    rintro e w3' ⟨rfl, hw⟩
    have HL3' := Lib.hid (HL3.out.trans (hw.mono HL3.out.size))
    clear hw
    go_wp2_with fail
    refine (takes_any w3').mono ?_
    rintro e w4 ⟨rfl, hw⟩
    have HL4 := Lib.hid (HL3'.out.trans (hw.mono HL3'.out.size))
    clear hw
    go_wp2_with fail
    refine (HLAST.out w4).mono ?_
    rintro e w5 ⟨rfl, hw⟩
    have HL5 := Lib.hid (HL4.out.trans (hw.mono HL4.out.size))
    clear hw
    go_wp2_with fail
    go_ret
    exact ⟨by first | rfl | simp, HL5.out⟩
theorem sum_bulk (fs : List (List ByteArray)) (h : bulkL (bulkL bulkS) fs ≤ 1048576) : sumLL fs ≤ 1048576 := by
  have e1 : ∀ l : List ByteArray, sumL l ≤ bulkL bulkS l := by
    intro l
    unfold bulkL
    induction l with
    | nil => simp [sumL]
    | cons x r ih => simp only [sumL, List.map_cons, List.sum_cons, bulkS] at ih ⊢; omega
  have e2 : ∀ l : List (List ByteArray), sumLL l ≤ (l.map (bulkL bulkS)).sum := by
    intro l
    induction l with
    | nil => simp [sumLL]
    | cons x r ih => have := e1 x; simp only [sumLL, List.map_cons, List.sum_cons]; omega
  have := e2 fs
  have h2 : bulkL (bulkL bulkS) fs = (fs.map (bulkL bulkS)).sum + 1 := rfl
  omega
end Go.Proofs.Ytjifoimkjgepcaa.Flt
