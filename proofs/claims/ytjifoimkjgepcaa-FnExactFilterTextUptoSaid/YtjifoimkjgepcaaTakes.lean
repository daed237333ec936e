/-
  The walk of laws.takes.
-/
import Derived.Test.YtjifoimkjgepcaaFltN
import Derived.Test.YtjifoimkjgepcaaSameBool
set_option linter.unusedVariables false
set_option linter.unusedSimpArgs false
namespace Go.Proofs.Ytjifoimkjgepcaa.Flt
open Go.RowKit Go.Proofs.Ytjifoimkjgepcaa.K Go.Proofs.YtjifoimkjgepcaaW.PrintWords

abbrev sN : ByteArray := ⟨#[110]⟩
abbrev sX : ByteArray := ⟨#[120]⟩
abbrev sV : ByteArray := ⟨#[118]⟩
theorem takes_plain : [[sN, sX], [sV]].map (takesAll [[sN]]) = [true, false] := by decide +kernel

def takesBlocks (n : Nat) : List Obj :=
  [.cells #[.string sN] 9, .cells #[.slice (some ⟨n, 0, none⟩) 1 1] 28, .cells #[.string sN, .string sX] 9, .cells #[.string sV] 9,
   .cells #[.slice (some ⟨n + 2, 0, none⟩) 2 2, .slice (some ⟨n + 3, 0, none⟩) 1 1] 28]

theorem takes_rows (w : World) : (Kd.slice 9 Kd.string).C (allocs w (takesBlocks w.heap.size)) (some ⟨w.heap.size + 1, 0, none⟩) [[sN]].length [[sN]] ∧
    (Kd.slice 9 Kd.string).C (allocs w (takesBlocks w.heap.size)) (some ⟨w.heap.size + 4, 0, none⟩) [[sN, sX], [sV]].length [[sN, sX], [sV]] := by
  have b0 : (allocs w (takesBlocks w.heap.size)).heap[w.heap.size]? = _ := allocs_new w (takesBlocks w.heap.size) 0 _ rfl
  have b1 := allocs_new w (takesBlocks w.heap.size) 1 _ rfl
  have b2 := allocs_new w (takesBlocks w.heap.size) 2 _ rfl
  have b3 := allocs_new w (takesBlocks w.heap.size) 3 _ rfl
  have b4 := allocs_new w (takesBlocks w.heap.size) 4 _ rfl
  have c0 : Kd.string.C (allocs w (takesBlocks w.heap.size)) (some ⟨w.heap.size, 0, none⟩) [sN].length [sN] := C_of_block (cs := [.string sN]) b0 (reps_strs _ [sN]) (by simp)
  have c2 : Kd.string.C (allocs w (takesBlocks w.heap.size)) (some ⟨w.heap.size + 2, 0, none⟩) [sN, sX].length [sN, sX] := C_of_block (cs := [.string sN, .string sX]) b2 (reps_strs _ [sN, sX]) (by simp)
  have c3 : Kd.string.C (allocs w (takesBlocks w.heap.size)) (some ⟨w.heap.size + 3, 0, none⟩) [sV].length [sV] := C_of_block (cs := [.string sV]) b3 (reps_strs _ [sV]) (by simp)
  refine ⟨C_of_block (d := Kd.slice 9 Kd.string) (cs := [.slice (some ⟨w.heap.size, 0, none⟩) 1 1]) b1 ?_ (by simp), C_of_block (d := Kd.slice 9 Kd.string) (cs := [.slice (some ⟨w.heap.size + 2, 0, none⟩) 2 2, .slice (some ⟨w.heap.size + 3, 0, none⟩) 1 1]) b4 ?_ (by simp)⟩
  · exact reps_cons (c := [_]) (cs := []) ⟨_, _, rfl, by simp, c0⟩ rfl (Reps.none _ _)
  · exact reps_cons (c := [_]) (cs := [_]) ⟨_, _, rfl, by simp, c2⟩ rfl (reps_cons (c := [_]) (cs := []) ⟨_, _, rfl, by simp, c3⟩ rfl (Reps.none _ _))

set_option maxHeartbeats 400000 in
theorem takes_any (w : World) : Calls Try.prog 15 #[] w fun e w' => e = .returned (.bool true) ∧ Below w.heap.size w w' := by
  obtain ⟨h1, h2⟩ := takes_rows w
  have H1 := Lib.hid h1
  have H2 := Lib.hid h2
  clear h1 h2
  go_enter Try.func15, Try.ntmps15
  go_wp2_with fail
  refine (Match_any (some ⟨w.heap.size + 1, 0, none⟩) (some ⟨w.heap.size + 4, 0, none⟩) 1 2 [[sN]] [[sN, sX], [sV]] (allocs w (takesBlocks w.heap.size)) H1.out H2.out (by simp) (by simp) (by simp [maxLen]) (by simp)).mono ?_
  rintro e w1 ⟨v, rfl, hv, hw1⟩
  rw [takes_plain] at hv
  obtain ⟨A, c, rfl, _, hC⟩ := Kd.R_reads hv
  have HC := Lib.hid hC
  have HL := Lib.hid ((allocs_below w (takesBlocks w.heap.size)).trans (hw1.mono (allocs_below w (takesBlocks w.heap.size)).size))
  clear hv hC hw1
  go_wp2_with fail
  refine (sameBool_any A (some ⟨w1.heap.size, 0, none⟩) c 2 [true, false] [true, false] (w1.alloc (.cells #[.bool true, .bool false] 4)) (Kd.C_alloc HC.out _) (C_of_block (cs := [.bool true, .bool false]) (heap_new w1 _) (reps_bools _ [true, false]) (by simp))).mono ?_
  rintro e w2 ⟨rfl, hw2⟩
  have HL2 := Lib.hid ((HL.out.alloc HL.out.size _).trans (hw2.mono (by have := HL.out.size; simp; omega)))
  clear hw2
  go_wp2
  go_ret
  exact ⟨rfl, HL2.out⟩
end Go.Proofs.Ytjifoimkjgepcaa.Flt
