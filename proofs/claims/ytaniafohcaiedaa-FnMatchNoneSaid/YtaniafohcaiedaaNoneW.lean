/-
  The walk of laws.FnMatchNone.
-/
import Derived.Test.YtaniafohcaiedaaTakes
import Derived.Test.YtaniafohcaiedaaHasBool
import Derived.Test.YtaniafohcaiedaaFits
set_option linter.unusedVariables false
set_option linter.unusedSimpArgs false
namespace Go.Proofs.Ytaniafohcaiedaa.Flt
open Go.RowKit Go.Proofs.Ytaniafohcaiedaa.K Go.Proofs.YtaniafohcaiedaaW.PrintWords

theorem takes_none (k : Nat) (x : List ByteArray) : takesAll (List.replicate k []) x = false := by
  have h : addAll (List.replicate k []) (.mk []) = .mk [] := by
    induction k with
    | zero => rfl
    | succ k ih => rw [List.replicate_succ']; rw [addAll_snoc, ih]; rfl
  rw [takesAll, h]
  cases x <;> rfl
theorem made_nil_rows (w : World) (b k : Nat) (h : w.heap[b]? = some (.cells (madeCells #[.slice none 0 0] k) 31 (0, 0))) (hk : k ≤ 4) :
    (Kd.slice 9 Kd.string).C w (some ⟨b, 0, none⟩) (List.replicate k ([] : List ByteArray)).length (List.replicate k []) := by
  have hr := (Kd.reps_made (R := (Kd.slice 9 Kd.string).K w) (z := .slice none 0 0) (size := 1) (z0 := []) rfl (by decide) (show (Kd.slice 9 Kd.string).K w [] [.slice none 0 0] from ⟨none, 0, rfl, by simp, Kd.C_nil _ _⟩) k)
  rw [Nat.mul_one] at hr
  exact C_of_arr (d := Kd.slice 9 Kd.string) h hr (by simp; omega)

theorem replicate_bool (n : Nat) (f : List ByteArray → Bool) (xs : List (List ByteArray)) (h : ∀ x, f x = false) : memB true (xs.map f) = false := by
  apply memB_false
  intro hm
  obtain ⟨x, _, hx⟩ := List.mem_map.1 hm
  rw [h] at hx
  cases hx

set_option maxHeartbeats 400000 in
theorem none_walk (n : Int) (hn : 0 ≤ n) (A : Option Addr) (c : Nat) (xs : List (List ByteArray)) (w : World) (hC : (Kd.slice 9 Kd.string).C w A xs.length xs) :
    Calls Try.prog 3 #[.int .u8 n, .slice A xs.length c] w fun e w' => e = .returned (.bool true) ∧ Below w.heap.size w w' := by
  have HC := Lib.hid hC
  clear hC
  obtain ⟨k, hk⟩ : ∃ k : Nat, n % 4 = (k : Int) := ⟨(n % 4).toNat, by omega⟩
  have hk4 : k < 4 := by omega
  have hmk := fun W : World => run_make_row' (P := Try.prog) 22 31 (.slice none 0 0) 24 Try.underlying22 (by kernel_rfl) rfl .u8 .u8 k (by omega) (by omega) W
  go_enter Try.func3, Try.ntmps3
  go_wp2_with fail
  refine (zzFits6_any A c xs w HC.out).mono ?_
  rintro e w1 ⟨b, rfl, hb, hw1⟩
  have HB := Lib.hid hb
  have HL1 := Lib.hid hw1
  clear hb hw1
  cases b
  · go_wp2
    go_ret
    exact ⟨rfl, HL1.out⟩
  have HC1 := Lib.hid (Kd.C_below HC.out HL1.out)
  have hsz1 := HL1.out.size
  go_wp2_with fail
  refine (smallLists_any A c xs w1 HC1.out).mono ?_
  rintro e w2 ⟨b2, rfl, _, hw2⟩
  have HL2 := Lib.hid (HL1.out.trans (hw2.mono hsz1))
  have HC2 := Lib.hid (Kd.C_below HC1.out hw2)
  have hsz2 := hw2.size
  clear hw2
  cases b2
  · go_wp2_with fail
    refine (takes_any w2).mono ?_
    rintro e w3 ⟨rfl, hw3⟩
    have HL3 := Lib.hid (HL2.out.trans (hw3.mono (by omega)))
    clear hw3
    go_wp2
    go_ret
    exact ⟨rfl, HL3.out⟩
  go_wp2_with fail
  have hC2 := HC2.out
  have hf := HB.out trivial
  have hmem := made_nil_rows (w2.alloc (.cells (madeCells #[.slice none 0 0] k) 31)) w2.heap.size k (heap_new w2 _) (by omega)
  have hM := Match_any (some ⟨w2.heap.size, 0, none⟩) A k c (List.replicate k []) xs (w2.alloc (.cells (madeCells #[.slice none 0 0] k) 31)) hmem (Kd.C_alloc hC2 _) (by intro x hx; rw [List.eq_of_mem_replicate hx]; simp) (by simp; omega)
    (fun x hx => by have := (hf.2 x hx).1; simp only [maxLen]; omega) (by have := hf.1; omega)
  rw [List.length_replicate] at hM
  refine hM.mono ?_
  rintro e w3 ⟨v, rfl, hv, hw3⟩
  obtain ⟨A3, c3, rfl, _, hC3⟩ := Kd.R_reads hv
  rw [List.length_map] at hC3 ⊢
  have hH := hasBool_any A3 c3 (xs.map (takesAll (List.replicate k []))) true w3 (by rw [List.length_map]; exact hC3)
  rw [List.length_map, replicate_bool 0 _ xs (takes_none k)] at hH
  have HH := Lib.hid hH
  have HL3 := Lib.hid ((HL2.out.alloc (by omega) _).trans (hw3.mono (by simp; omega)))
  have hsz3 := hw3.size
  have hs3 : w2.heap.size ≤ w3.heap.size := by simp at hsz3; omega
  clear hC2 hf hmem hM hv hC3 hH hw3 hsz3
  go_wp2_with fail
  refine HH.out.mono ?_
  rintro e w4 ⟨rfl, hw4⟩
  have HL4 := Lib.hid (HL3.out.trans (hw4.mono (by omega)))
  have hsz4 := hw4.size
  clear hw4
  go_wp2_with fail
  refine (takes_any w4).mono ?_
  rintro e w5 ⟨rfl, hw5⟩
  have HL5 := Lib.hid (HL4.out.trans (hw5.mono (by omega)))
  clear hw5
  go_wp2
  go_ret
  exact ⟨rfl, HL5.out⟩
end Go.Proofs.Ytaniafohcaiedaa.Flt
