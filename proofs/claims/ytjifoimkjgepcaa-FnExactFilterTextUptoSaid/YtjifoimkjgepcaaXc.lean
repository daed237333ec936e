/-
  The walks of (*FeaturesFilter).String and impl.FilterText.
-/
import Derived.Test.YtjifoimkjgepcaaXb
import Derived.Test.YtjifoimkjgepcaaFltN
set_option linter.unusedVariables false
set_option linter.unusedSimpArgs false
namespace Go.Proofs.Ytjifoimkjgepcaa.Flt
open Go.RowKit Go.Proofs.Ytjifoimkjgepcaa.K Go.Proofs.Ytjifoimkjgepcaa.Fx Go.Proofs.YtjifoimkjgepcaaW.PrintWords

mutual
/-- How many nodes a tree has. -/
def nT : FT → Nat
  | .mk l => 1 + nK l
def nK : List (ByteArray × FT) → Nat
  | [] => 0
  | (_, t) :: r => nT t + nK r
end
mutual
theorem nodes_nT : ∀ d : DT, d.nodes.length = nT d.strip
  | .mk b v l => by rw [DT.nodes, List.length_cons, nodesL_nT l, DT.strip, nT]; omega
theorem nodesL_nT : ∀ l : List (ByteArray × DT), (DT.nodesL l).length = nK (DT.stripL l)
  | [] => by simp [DT.nodesL, DT.stripL, nK]
  | (n, d) :: r => by rw [DT.nodesL, List.length_append, nodes_nT d, nodesL_nT r, DT.stripL, nK]
end
set_option maxHeartbeats 400000 in
set_option maxRecDepth 5000 in
theorem string_any (base : Nat) (D : DT) (w : World) (hT : TreeInv w base D.nodes) (hn : nT D.strip ≤ 99999) (ht : (textT 0 D.strip).length ≤ 140737488355328) :
    Calls Try.prog 43 #[.pointer (some ⟨D.b, 0, none⟩)] w fun e w' => e = .returned (.string ⟨(textT 0 D.strip).toArray⟩) ∧ Below w.heap.size w w' := by
  obtain ⟨w1, hw1⟩ : ∃ w1, w1 = w.alloc (.cells #[.pointer none, .slice none 0 0] tBd) := ⟨_, rfl⟩
  have hb1 : Below w.heap.size w w1 := hw1 ▸ below_alloc (Below.refl _ w) _
  have hbd : Lib.IsBuilder tBd tU8 w.heap.size w.heap.size (Lib.byteCells []) w1 := .inl ⟨Nat.le_refl _, .slice none 0 0, by rw [hw1]; exact heap_new w _, ⟨rfl, .inl ⟨rfl, rfl⟩⟩, by simp [Value.ownBlock]⟩
  have HF := Lib.hid (fstr_any base w.heap.size w.heap.size w D.nodes.length D 0 [] w1 (Nat.le_refl _) hT.ok hb1 hbd (by simpa using ht) (by rw [nodes_nT]; omega) hb1.size (Nat.le_refl _))
  have HB := Lib.hid hb1
  have HW1 := Lib.hid hw1
  clear hT hn ht hb1 hbd hw1
  go_enter Try.func43, Try.ntmps43
  go_wp2_with fail
  rw [← HW1.out]
  refine HF.out.mono ?_
  rintro e w2 ⟨rfl, hbd2, hb2⟩
  rw [List.nil_append] at hbd2
  have HBD2 := Lib.hid hbd2
  have HB2 := Lib.hid hb2
  have hsz2 := hb2.size
  clear hbd2 hb2
  go_wp2_with fail
  refine (Try.Builder_String_any w.heap.size w.heap.size _ w2 HBD2.out hsz2).mono ?_
  rintro e w3 ⟨rfl, hb3⟩
  have HB3 := Lib.hid (HB2.out.trans hb3)
  clear hb3
  go_wp2_with fail
  go_ret
  exact ⟨rfl, HB3.out⟩
set_option maxHeartbeats 400000 in
set_option maxRecDepth 5000 in
theorem implText_any (A : Option Addr) (c : Nat) (fs : List (List ByteArray)) (w : World) (hC : (Kd.slice 9 Kd.string).C w A fs.length fs) (hb : ∀ x ∈ fs, x.length * 16 ≤ 140737488355328) (hb' : fs.length * 24 ≤ 140737488355328)
    (hn : nT (addAll fs (.mk [])) ≤ 99999) (ht : (textT 0 (addAll fs (.mk []))).length ≤ 140737488355328) :
    Calls Try.prog 17 #[.slice A fs.length c] w fun e w' => e = .returned (.string ⟨(textT 0 (addAll fs (.mk []))).toArray⟩) ∧ Below w.heap.size w w' := by
  have HC := Lib.hid hC
  have HB := Lib.hid hb
  have HN := Lib.hid hn
  have HTX := Lib.hid ht
  clear hC hb hn ht
  go_enter Try.func17, Try.ntmps17
  go_wp2_with fail
  refine (copied_any A c fs w HC.out HB.out hb').mono ?_
  rintro e w1 ⟨v, rfl, hv, hw1⟩
  obtain ⟨A3, c3, rfl, hl3, hC3⟩ := Kd.R_reads hv
  have HC3 := Lib.hid hC3
  have HL1 := Lib.hid hw1
  have hsz1 := hw1.size
  clear hv hl3 hC3 hw1
  go_wp2_with fail
  refine (new_any A3 c3 fs w1 HC3.out (by omega) (fun x hx => by have := HB.out x hx; simp only [maxLen]; omega)).mono ?_
  rintro e w2 ⟨D, rfl, hT, hst, hw2⟩
  have HT := Lib.hid hT
  have HL2 := Lib.hid (HL1.out.trans (hw2.mono hsz1))
  have HST := Lib.hid hst
  clear hT hw2 hst
  have HSTR := Lib.hid (string_any w1.heap.size D w2 HT.out (by rw [HST.out]; exact HN.out) (by rw [HST.out]; exact HTX.out))
  rw [HST.out] at HSTR
  go_wp2_with fail
  refine HSTR.out.mono ?_
  rintro e w3 ⟨rfl, hb3⟩
  have HL3 := Lib.hid (HL2.out.trans (hb3.mono HL2.out.size))
  clear hb3
  go_wp2_with fail
  go_ret
  exact ⟨rfl, HL3.out⟩
end Go.Proofs.Ytjifoimkjgepcaa.Flt
