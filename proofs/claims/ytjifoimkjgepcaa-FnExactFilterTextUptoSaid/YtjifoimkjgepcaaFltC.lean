/-
  The walk of (*FeaturesFilter).Match over the filters' tree.
-/
import Derived.Test.YtjifoimkjgepcaaFltA
set_option linter.unusedVariables false
set_option linter.unusedSimpArgs false
namespace Go.Proofs.Ytjifoimkjgepcaa.Flt
open Go.RowKit Go.Proofs.Ytjifoimkjgepcaa.K

def MatchRel (base : Nat) (xs : List ByteArray) (D : DT) (w : World) (n i : Value) (wr : World) : Prop :=
  ∃ (k : Nat) (C : List Fr) (d : DT), k ≤ xs.length ∧ i = .int .i64 k ∧ n = .pointer (some ⟨d.b, 0, none⟩) ∧ D = plug C d ∧ TreeInv wr base (plug C d).nodes ∧
    accT xs D.strip = accT (xs.drop k) d.strip ∧ Below w.heap.size w wr

theorem ret_bool {a b : Bool} (h : a = b) : Ending.returned (.bool a) = .returned (.bool b) := by rw [h]

set_option maxHeartbeats 400000 in
theorem match_any (A : Option Addr) (c : Nat) (xs : List ByteArray) (w : World) (base : Nat) (D : DT) (hm : xs.length ≤ maxLen)
    (hxs : ∀ j (h : j < xs.length), ∃ ad, A = some ad ∧ w.cell? (ad.add j) = some (.string xs[j]))
    (hinv : TreeInv w base D.nodes) :
    Calls Try.prog 57 #[.pointer (some ⟨D.b, 0, none⟩), .slice A xs.length c] w fun e w' => e = .returned (.bool (accT xs D.strip)) ∧ Below w.heap.size w w' := by
  unfold maxLen at hm
  have HX := Lib.hid hxs
  clear hxs
  have HI := Lib.hid hinv
  clear hinv
  go_enter Try.func57, Try.ntmps57
  go_wp2
  go_loopw [5, 14] (fun n i wr => MatchRel base xs D w n i wr) (fun _ i _ => xs.length - (intOf i).toNat)
  case atStart => exact ⟨0, [], D, Nat.zero_le _, rfl, rfl, rfl, HI.out, rfl, Below.refl _ _⟩
  case round =>
    obtain ⟨k, C, d, hk, rfl, rfl, hD, hT, hacc, hbel⟩ := hrel
    by_cases hlt : k < xs.length
    · obtain ⟨ad, rfl, hs⟩ := HX.out k hlt
      have hs' : wr.cell? (ad.add k) = some (.string xs[k]) := (hbel.cell (World.block_lt_of_cell? w _ hs)).trans hs
      clear hs
      have hx := hT.cursor.ok _ List.mem_cons_self
      obtain ⟨A', c', hv, hF, hnil, hc, hfz, hdlt⟩ := hx.reads
      simp only at hv hc hfz hdlt
      have HT := Lib.hid hT
      have HA := Lib.hid hacc
      have HNX := Lib.hid hx
      have HV := Lib.hid hv
      have HDD := Lib.hid hD
      clear hT hacc hx hv hnil hD hfz
      rcases hix : ixN xs[k] ((ends d.kids).map (·.1)) with _ | j
      · have HIX := Lib.hid hix
        clear hix
        go_wp2_with (go_at_call 89; refine (has_none c' hF HIX.out).mono ?_; rintro e w1 ⟨rfl, hw1⟩)
        go_ret
        refine ⟨ret_bool ?_, hbel.trans (hw1.mono hbel.size)⟩
        rw [HA.out, List.drop_eq_getElem_cons hlt, accT_none HIX.out]
      · have hjl : j < d.kids.length := by have := ixN_lt hix; simpa [ends] using this
        have hje : j < (ends d.kids).length := by simpa [ends] using hjl
        have HIX := Lib.hid hix
        clear hix
        go_wp2_with fail
        refine (has_some c' hF HIX.out).mono ?_
        rintro e w1 ⟨rfl, hw1⟩
        have hx1 := HNX.out.heap_keep hw1.block
        have hT1 := HT.out.below hw1
        have HL1 := Lib.hid (hbel.trans (hw1.mono hbel.size))
        obtain ⟨b2, p, hA2, he1, he2, he3⟩ := (hF.below hw1).2 j hje
        obtain ⟨A3, c3, hv3, hF3, hnil3, hc3, hf3, hdlt3⟩ := hx1.reads
        have hc1 : w1.cell? ⟨d.b, 0, none⟩ = some (.slice A' (ends d.kids).length c') := by
          have := hv3.symm.trans HV.out
          rw [hc3, this]
        subst hA2
        have hpl : plug C d = plug (⟨d.b, d.v, d.kids.take j, d.kids[j].1, d.kids.drop (j + 1)⟩ :: C) d.kids[j].2 := plug_down C d j hjl
        rw [hpl] at hT1
        have HPL := Lib.hid hpl
        have hcd := hT1.cursor.ok _ List.mem_cons_self
        obtain ⟨Ac, cc, hvc, hFc, hnilc, hcc, hfc, hclt⟩ := hcd.reads
        simp only at hvc hcc hfc hclt hnilc
        have hchild : (ends d.kids)[j].2 = d.kids[j].2.b := by simp [ends]
        rw [hchild] at he3
        generalize hcb : d.kids[j].2 = ch at *
        have HT1 := Lib.hid hT1
        have HCB := Lib.hid hcb
        clear hpl hx1 hT1 hv3 hF3 hnil3 hc3 hf3 hdlt3 hc hs' hF hbel hcb hcd hvc hFc hchild he2 hw1 hfc
        go_wp2_with fail
        refine (isLeaf_any _ _ _ _).mono ?_
        rintro e w3 ⟨rfl, hw3⟩
        have HL3 := Lib.hid (HL1.out.trans (hw3.mono HL1.out.size))
        have HT3 := Lib.hid (HT1.out.below hw3)
        clear hw3 he1 he3 hc1 hcc
        by_cases hleaf : ch.kids = []
        · have hAc : Ac.isNone = true := by rw [hnilc, hleaf]; rfl
          clear hnilc
          go_wp2
          go_ret
          refine ⟨ret_bool ?_, HL3.out⟩
          rw [HA.out, List.drop_eq_getElem_cons hlt, accT_leaf HIX.out hjl (by rw [HCB.out]; exact hleaf)]
        · have hAc : Ac.isNone = false := by
            rw [hnilc]
            cases hk' : ch.kids with
            | nil => exact absurd hk' hleaf
            | cons => rfl
          clear hnilc
          go_wp2
          refine ⟨?_, by simp [intOf]; omega⟩
          refine ⟨k + 1, _, ch, by omega, by go_num, rfl, by rw [HDD.out]; exact HPL.out, HT3.out, ?_, HL3.out⟩
          rw [HA.out, List.drop_eq_getElem_cons hlt, accT_on HIX.out hjl (by rw [HCB.out]; exact hleaf), HCB.out]
    · go_wp2
      go_ret
      obtain rfl : k = xs.length := by omega
      refine ⟨ret_bool ?_, hbel⟩
      rw [hacc, List.drop_length]; rfl
end Go.Proofs.Ytjifoimkjgepcaa.Flt
