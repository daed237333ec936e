/-
  The walk of add over the filters' tree.
-/
import Derived.Test.YtjifoimkjgepcaaFltW
set_option linter.unusedVariables false
set_option linter.unusedSimpArgs false
namespace Go.Proofs.Ytjifoimkjgepcaa.Flt
open Go.RowKit Go.Proofs.Ytjifoimkjgepcaa.K Go.Proofs.YtjifoimkjgepcaaW.PrintWords

/-- What add leaves. -/
def Added (rb base B : Nat) (fs : List ByteArray) (T : FT) (w : World) (e : Ending) (w' : World) : Prop :=
  e = .returned (.tuple #[]) ∧ ∃ D : DT, TreeInv w' base D.nodes ∧ D.b = rb ∧ D.strip = addT fs T ∧ (∀ x ∈ D.nodes, x.es.length ≤ B + 1) ∧ Below base w w'

/-- The loop's relation. -/
def AddRel (rb base B : Nat) (fs : List ByteArray) (T : FT) (w : World) (n i : Value) (wr : World) : Prop :=
  ∃ (k : Nat) (C : List Fr) (d : DT), k ≤ fs.length ∧ i = .int .i64 k ∧ n = .pointer (some ⟨d.b, 0, none⟩) ∧ TreeInv wr base (plug C d).nodes ∧ (plug C d).b = rb ∧
    addT fs T = plugF C (addT (fs.drop k) d.strip) ∧ (∀ x ∈ (plug C d).nodes, x.es.length ≤ B + 1) ∧ ((∀ x ∈ (plug C d).nodes, x.es.length ≤ B) ∨ d.kids = []) ∧ Below base w wr ∧ (k < fs.length ∨ True)

set_option maxHeartbeats 400000 in
theorem add_any (A : Option Addr) (c : Nat) (fs : List ByteArray) (w : World) (base B rb : Nat) (D : DT) (hm : fs.length ≤ maxLen)
    (hfs : ∀ j (h : j < fs.length), ∃ ad, A = some ad ∧ w.cell? (ad.add j) = some (.string fs[j]) ∧ ad.block < base)
    (hinv : TreeInv w base D.nodes) (hD : D.b = rb) (hbase : base ≤ w.heap.size) (hB : ∀ x ∈ D.nodes, x.es.length ≤ B) (hB' : (B + 1) * 8 ≤ 140737488355328) :
    Calls Try.prog 59 #[.pointer (some ⟨rb, 0, none⟩), .slice A fs.length c] w (Added rb base B fs D.strip w) := by
  unfold maxLen at hm
  have HD := Lib.hid hD
  clear hD
  have HF := Lib.hid hfs
  clear hfs
  have HI := Lib.hid hinv
  clear hinv
  have HB := Lib.hid hB
  clear hB
  go_enter Try.func59, Try.ntmps59
  go_wp2
  go_loopw [4, 15] (fun n i wr => AddRel rb base B fs D.strip w n i wr) (fun _ i _ => fs.length - (intOf i).toNat)
  case atStart => exact ⟨0, [], D, Nat.zero_le _, rfl, by rw [HD.out], HI.out, HD.out, by simp [plugF], fun x hx => Nat.le_succ_of_le (HB.out x hx), .inl HB.out, Below.refl _ _, .inr trivial⟩
  case round =>
    obtain ⟨k, C, d, hk, rfl, rfl, hT, hr, hadd, hb1, hb2, hbel, _⟩ := hrel
    by_cases hlt : k < fs.length
    · obtain ⟨ad, rfl, hs, hbb⟩ := HF.out k hlt
      have hs' : wr.cell? (ad.add k) = some (.string fs[k]) := (hbel.cell (p := ad.add k) (by rw [add_block]; exact hbb)).trans hs
      clear hs
      have hx := hT.cursor.ok _ List.mem_cons_self
      obtain ⟨A', c', hv, hF, hnil, hc, hfz, hdlt⟩ := hx.reads
      simp only at hv hc hfz hdlt
      have HT := Lib.hid hT
      have HR := Lib.hid hr
      have HA := Lib.hid hadd
      have H1 := Lib.hid hb1
      have H2 := Lib.hid hb2
      have HX := Lib.hid hx
      have HV := Lib.hid hv
      have HN := Lib.hid hnil
      clear hT hr hadd hb1 hb2 hx hv hnil
      rcases hix : ixN fs[k] ((ends d.kids).map (·.1)) with _ | j
      · have HIX := Lib.hid hix
        clear hix
        go_wp2_with fail
        refine (has_none c' hF HIX.out).mono ?_
        rintro e w1 ⟨rfl, hw1⟩
        have hx1 := HX.out.heap_keep hw1.block
        have HT1 := Lib.hid (HT.out.below hw1)
        have HL1 := Lib.hid (hbel.trans (hw1.mono (Nat.le_trans hbase hbel.size)))
        have hsz := hw1.size
        have hdlt1 : d.b < w1.heap.size := by omega
        have hbs : base ≤ w1.heap.size := by have := hbel.size; omega
        obtain ⟨t, ht, hcell⟩ := hx1.cell
        have hc1 : w1.cell? ⟨d.b, 0, none⟩ = some (.slice A' (ends d.kids).length c') := by rw [cell_of_heap hcell, HV.out]; rfl
        have hf1 : w1.frozen? ⟨d.b, 0, none⟩ = false := frozen_of_heap hcell 0
        clear hc hfz hs' hF hw1 hbel
        have hcell' : w1.heap[d.b]? = some (.cells #[d.v] t (0, 0)) := hcell
        have HC := Lib.hid hcell'
        clear hcell hcell'
        obtain ⟨xs, hxl, hown, hedge⟩ := hx1.owned
        have HE := Lib.hid hedge
        have hxl' : xs.length = (ends d.kids).length := hxl
        have HXL := Lib.hid hxl'
        have hown' : w1.ownsRow base 145 1 (.slice A' (ends d.kids).length c') xs.length xs := by rw [← HV.out]; exact hown
        have hBd : (xs.length + 1) * 8 ≤ 140737488355328 := by
          rw [hxl']
          have : (ends d.kids).length ≤ B := by
            rcases H2.out with h | h
            · exact h _ (cursor_mem C d)
            · simp [ends, h]
          omega
        have HO := Lib.hid hown'
        have HBd := Lib.hid hBd
        have HX1 := Lib.hid hx1
        clear hedge hxl hxl' hown hown' hBd hx1
        have hsz1 : ((w1.alloc (Obj.cells #[Value.string fs[k], Value.pointer none] 144)).alloc (Obj.cells #[Value.pointer (some ⟨w1.heap.size, 0, none⟩)] 145)).heap.size = w1.heap.size + 1 + 1 := by simp
        have HSZ1 := Lib.hid hsz1
        clear hsz1
        go_wp2_with (at_builtin; refine app1 (w0 := w) base rfl _ _ 109 145 (.pointer none) 8 rfl Try.underlying109 (by kernel_rfl) rfl (by decide) (.slice A' (ends d.kids).length c') xs (.pointer (some ⟨w1.heap.size, 0, none⟩)) (w1.heap.size + 1) rfl rfl ?hg rfl ((HO.out.alloc _).alloc _) ((HL1.out.alloc hbs _).alloc (by simp; omega) _) (by simp; omega) HBd.out ?_)
        case hg => exact cell_new1 _ _ _ _
        intro v1 w2 hown1 hb2 hgr hat
        have hgr' := hgr
        have hown1' := hown1
        obtain ⟨g, cap, hv1, hg1, hh1⟩ : ∃ g cap, v1 = .slice (some ⟨g, 0, none⟩) ((ends d.kids).length + 1) cap ∧ v1.ownBlock = some g ∧ ∃ cur, w2.heap[g]? = some (.cells cur 145 (0, 0)) := by
          have hl := HXL.out
          rcases hown1.2 with ⟨_, h0⟩ | ⟨g, cap, cur, hv, _, hh, _⟩
          · omega
          · exact ⟨g, cap, by rw [hv, hl], by rw [hv]; rfl, cur, hh⟩
        have HOWN := Lib.hid hown1
        have HGR := Lib.hid hgr
        have HB2 := Lib.hid hb2
        have HAT := Lib.hid hat
        have HG1 := Lib.hid hg1
        have HV1 := Lib.hid hv1
        have HH1 := Lib.hid hh1
        -- the blocks of w1 in w2
        have hkeep : ∀ q, q < w1.heap.size + 1 → some q ≠ (Value.slice A' (ends d.kids).length c').ownBlock → w2.heap[q]? = (w1.alloc (Obj.cells #[Value.string fs[k], Value.pointer none] 144)).heap[q]? := by
          intro q hq hn
          rw [hgr.block q (by simp; omega) hn]
          exact heap_old' _ _ (by simpa using hq)
        have hown0 : ∀ q, (Value.slice A' (ends d.kids).length c').ownBlock = some q → q < w1.heap.size := fun q hq => (HO.out.lt q hq).2
        have hnod : some d.b ≠ (Value.slice A' (ends d.kids).length c').ownBlock := by
          intro e
          obtain ⟨cur, hcc⟩ := own_heap HO.out e.symm
          exact typ_ne HC.out hcc (by rcases ht with rfl | rfl <;> decide) rfl
        have hd2 : w2.heap[d.b]? = some (.cells #[d.v] t (0, 0)) := by
          rw [hkeep d.b (by omega) hnod, heap_old' _ _ hdlt1]; exact HC.out
        have he2 : w2.heap[w1.heap.size]? = some (.cells #[Value.string fs[k], Value.pointer none] 144 (0, 0)) := by
          rw [hkeep _ (by omega) (fun e => by have := hown0 _ e.symm; omega)]
          exact heap_new _ _
        have hsz2 : w1.heap.size + 1 < w2.heap.size := by have := hgr.size; simp at this; omega
        have hc2 : w2.cell? ⟨d.b, 0, none⟩ = some (.slice A' (ends d.kids).length c') := by rw [cell_of_heap hd2, HV.out]; rfl
        have hf2 : w2.frozen? ⟨d.b, 0, none⟩ = false := frozen_of_heap hd2 0
        have hce : w2.cell? ⟨w1.heap.size, 1, none⟩ = some (.pointer none) := by rw [cell_of_heap he2]; rfl
        have hfe : w2.frozen? ⟨w1.heap.size, 1, none⟩ = false := frozen_of_heap he2 1
        have hdne : ¬ d.b = w1.heap.size := by omega
        have HD2 := Lib.hid hd2
        have HE2 := Lib.hid he2
        have HNOD := Lib.hid hnod
        clear hown1 hown1' hgr hgr' hat hv1 hg1 hh1 hkeep hown0 hnod hd2 he2 hc1 hf1 hb2
        rw [HV1.out]
        have h3 : ((w2.setCell ⟨d.b, 0, none⟩ (.slice (some ⟨g, 0, none⟩) ((ends d.kids).length + 1) cap)).alloc (.cells #[.slice none 0 0] 111)).heap[w1.heap.size]? = some (.cells #[Value.string fs[k], Value.pointer none] 144 (0, 0)) := by
          have h1 := heap_set_ne (w := w2) (b := d.b) (k := w1.heap.size) (fun e => hdne e.symm) 0 (.slice (some ⟨g, 0, none⟩) ((ends d.kids).length + 1) cap)
          rw [HE2.out] at h1
          exact heap_old h1 (.cells #[.slice none 0 0] 111)
        have hce3 := cell_of_heap h3 1
        have hfe3 := frozen_of_heap h3 1
        have h4 := heap_set h3 1 (.pointer (some ⟨w2.heap.size, 0, none⟩))
        have hlast := cell_of_heap h4 1
        have H4 := Lib.hid h4
        have H3 := Lib.hid h3
        clear h4
        clear h3 hce hfe
        go_wp2
        refine ⟨?_, by simp [intOf]; omega⟩
        have hle : d.kids.length ≤ B := by
          have := HBd.out
          have h1 := HXL.out
          rcases H2.out with h | h
          · have := h _ (cursor_mem C d)
            simpa [ends] using this
          · simp [h]
        have hkq : ∀ q, q ≠ d.b → q ≠ w1.heap.size → q < w2.heap.size → (((w2.setCell ⟨d.b, 0, none⟩ (.slice (some ⟨g, 0, none⟩) ((ends d.kids).length + 1) cap)).alloc (.cells #[.slice none 0 0] 111)).setCell ⟨w1.heap.size, 1, none⟩ (.pointer (some ⟨w2.heap.size, 0, none⟩))).heap[q]? = w2.heap[q]? := by
          intro q h1 h2 h3
          rw [heap_set_ne h2, heap_old' _ _ (by rw [size_set]; exact h3), heap_set_ne h1]
        have hlow : base ≤ d.b := HX.out.low
        refine ⟨k + 1, ⟨d.b, v1, d.kids, fs[k], []⟩ :: C, .mk w2.heap.size (.slice none 0 0) [], by omega, by go_num, rfl, ?_, ?_, ?_, bound_new H1.out hle, .inr rfl, ?_, .inr trivial⟩
        · refine grow_node (w1 := w1) (t := t) (e := w1.heap.size) (xs := xs) HT1.out (by rw [HXL.out]; simp [ends]) HE.out ?_ ht ?_ hbs ?_ (by omega) (by omega) ?_ ?_ ?_
          · intro q h1 h2 h3
            rw [hkq q h2 (by omega) (by omega)]
            have h3' : some q ≠ (Value.slice A' (ends d.kids).length c').ownBlock := by rw [← HV.out]; exact h3
            rw [HGR.out.block q (by simp; omega) h3', heap_old' _ _ (by simp; omega), heap_old' _ _ h1]
          · rw [heap_set_ne hdne, HV1.out]
            exact heap_old (heap_set HD2.out 0 _) _
          · exact H4.out
          · rw [heap_set_ne (by omega)]
            have h := heap_new (w2.setCell ⟨d.b, 0, none⟩ (.slice (some ⟨g, 0, none⟩) ((ends d.kids).length + 1) cap)) (.cells #[.slice none 0 0] 111)
            rw [size_set] at h
            exact h
          · have h1 := HOWN.out
            refine own_keep (by simpa using h1) ?_
            intro q hq
            obtain ⟨cur, hcur⟩ := own_heap h1 hq
            exact hkq q (typ_ne hcur HD2.out (by rcases ht with rfl | rfl <;> decide)) (typ_ne hcur HE2.out (by decide)) (lt_of_heap hcur)
          · rcases HAT.out with h | ⟨q, h1, h2⟩
            · left; rw [h, HV.out]
            · exact .inr ⟨q, h1, by omega⟩
        · rw [← HR.out]
          exact plug_b C _ _ rfl
        · rw [HA.out, List.drop_eq_getElem_cons hlt, addT_none HIX.out]
          simp [plugF, strip_kids, DT.strip, DT.stripL]
        · exact ((HB2.out.setCell hlow _).alloc (by rw [size_set]; omega) _).setCell hbs _
      · have hjl : j < d.kids.length := by have := ixN_lt hix; simpa [ends] using this
        have hje : j < (ends d.kids).length := by simpa [ends] using hjl
        have HIX := Lib.hid hix
        clear hix
        go_wp2_with fail
        refine (has_some c' hF HIX.out).mono ?_
        rintro e w1 ⟨rfl, hw1⟩
        have hx1 := HX.out.heap_keep hw1.block
        have hT1 := HT.out.below hw1
        have HL1 := Lib.hid (hbel.trans (hw1.mono (Nat.le_trans hbase hbel.size)))
        have hsz := hw1.size
        have hdlt1 : d.b < w1.heap.size := by omega
        have hbs : base ≤ w1.heap.size := by have := hbel.size; omega
        obtain ⟨b2, p, hA2, he1, he2, he3⟩ := (hF.below hw1).2 j hje
        obtain ⟨A3, c3, hv3, hF3, hnil3, hc3, hf3, hdlt3⟩ := hx1.reads
        have hc1 : w1.cell? ⟨d.b, 0, none⟩ = some (.slice A' (ends d.kids).length c') := by
          have := hv3.symm.trans HV.out
          rw [hc3, this]
        subst hA2
        rw [plug_down C d j hjl] at hT1
        have hcd := hT1.cursor.ok _ List.mem_cons_self
        obtain ⟨Ac, cc, hvc, hFc, hnilc, hcc, hfc, hclt⟩ := hcd.reads
        simp only at hvc hcc hfc hclt hnilc
        have hchild : (ends d.kids)[j].2 = d.kids[j].2.b := by simp [ends]
        rw [hchild] at he3
        generalize hcb : d.kids[j].2 = ch at *
        have HT1 := Lib.hid hT1
        have HCB := Lib.hid hcb
        have HCD := Lib.hid hcd
        have HVC := Lib.hid hvc
        have HFC := Lib.hid hFc
        clear hx1 hT1 hv3 hF3 hnil3 hc3 hf3 hdlt3 hc hfz hs' hF hw1 hbel hcb hcd hvc hFc hchild he2
        go_wp2_with fail
        refine (isLeaf_any _ _ _ _).mono ?_
        rintro e w3 ⟨rfl, hw3⟩
        have hx3 := HCD.out.heap_keep hw3.block
        have HT3 := Lib.hid (HT1.out.below hw3)
        have HL3 := Lib.hid (HL1.out.trans (hw3.mono hbs))
        have hsz3 := hw3.size
        have hbs3 : base ≤ w3.heap.size := by omega
        obtain ⟨t, ht, hcell⟩ := hx3.cell
        have hc4 : w3.cell? ⟨ch.b, 0, none⟩ = some (.slice Ac (ends ch.kids).length cc) := by
          have : w3.heap[ch.b]? = some (.cells #[ch.v] t (0, 0)) := hcell
          rw [cell_of_heap this, HVC.out]; rfl
        have hf4 : w3.frozen? ⟨ch.b, 0, none⟩ = false := frozen_of_heap hcell 0
        have HC4 := Lib.hid hcell
        have HX3 := Lib.hid hx3
        have hlow : base ≤ ch.b := HCD.out.low
        have HB3 := Lib.hid hw3.block
        clear hcc hfc hw3 hx3 hcell he1 he3 hc1
        have hpl : plug C d = plug (⟨d.b, d.v, d.kids.take j, d.kids[j].1, d.kids.drop (j + 1)⟩ :: C) ch := by rw [plug_down C d j hjl, HCB.out]
        have HPL := Lib.hid hpl
        clear hpl
        by_cases hleaf : ch.kids = []
        · have hAc : Ac.isNone = true := by rw [hnilc, hleaf]; rfl
          clear hnilc
          go_wp2
          go_end0
          refine ⟨rfl, plug C d, by rw [HPL.out]; exact HT3.out, HR.out, ?_, H1.out, HL3.out⟩
          rw [strip_plug, HA.out, List.drop_eq_getElem_cons hlt, addT_leaf HIX.out hjl (by rw [HCB.out]; exact hleaf)]
        · have hAc : Ac.isNone = false := by
            rw [hnilc]
            cases hk' : ch.kids with
            | nil => exact absurd hk' hleaf
            | cons => rfl
          clear hnilc
          by_cases htail : k + 1 = fs.length
          · have ht1 : ((k : Int) == (fs.length : Int) - 1) = true := by simp; omega
            go_wp2
            go_end0
            refine ⟨rfl, _, clear_node HT3.out, ?_, ?_, bound_clear (by rw [← HPL.out]; exact H1.out), HL3.out.setCell hlow _⟩
            · rw [← HR.out, HPL.out]
              exact plug_b _ _ _ rfl
            · rw [strip_plug, HA.out, List.drop_eq_getElem_cons hlt, htail, List.drop_length, addT_tail HIX.out hjl (by rw [HCB.out]; exact hleaf), plugF_down C d j hjl]
              rfl
          · have ht1 : ((k : Int) == (fs.length : Int) - 1) = false := by simp; omega
            go_wp2
            refine ⟨?_, by simp [intOf]; omega⟩
            refine ⟨k + 1, _, ch, by omega, by go_num, rfl, HT3.out, ?_, ?_, by rw [← HPL.out]; exact H1.out, .inl ?_, HL3.out, .inr trivial⟩
            · rw [← HPL.out]; exact HR.out
            · have hdr : fs.drop (k + 1) ≠ [] := by
                intro e
                have := congrArg List.length e
                simp at this
                omega
              rw [HA.out, List.drop_eq_getElem_cons hlt, addT_on HIX.out hjl (by rw [HCB.out]; exact hleaf) hdr, plugF_down C d j hjl, HCB.out]
            · rw [← HPL.out]
              rcases H2.out with h | h
              · exact h
              · rw [h] at hjl; simp at hjl
    · go_wp2
      go_end0
      obtain rfl : k = fs.length := by omega
      exact ⟨rfl, plug C d, hT, hr, by rw [strip_plug, hadd, List.drop_length]; rfl, hb1, hbel⟩
end Go.Proofs.Ytjifoimkjgepcaa.Flt
