/-
  The flags of the reference's tree while a filter is put.
-/
import Derived.Test.YtjifoimkjgepcaaXh
set_option linter.unusedVariables false
set_option linter.unusedSimpArgs false
namespace Go.Proofs.Ytjifoimkjgepcaa.Flt
open Go.RowKit Go.Proofs.Ytjifoimkjgepcaa.K Go.Proofs.Ytjifoimkjgepcaa.Fx Go.Proofs.YtjifoimkjgepcaaW.PrintWords

/-- A node is a leaf where it has no children, but for the root and the node c. -/
def FlagOK (F : Nat → Bool) (rb c : Nat) (L : List Nd) : Prop := F rb = false ∧ ∀ x ∈ L, x.b ≠ rb → x.b ≠ c → F x.b = x.es.isEmpty
theorem FlagOK.perm {F : Nat → Bool} {rb c : Nat} {L M : List Nd} (h : FlagOK F rb c L) (p : L.Perm M) : FlagOK F rb c M := ⟨h.1, fun x hx => h.2 x (p.mem_iff.2 hx)⟩
theorem root_in : ∀ (C : List Fr) (d : DT), (C = [] ∧ (plug C d).b = d.b) ∨ ∃ y ∈ nodesC C d.b, y.b = (plug C d).b
  | [], d => .inl ⟨rfl, rfl⟩
  | f :: C, d => by
    right
    rw [plug, nodesC]
    rcases root_in C (.mk f.b f.v (f.l ++ (f.n, d) :: f.r)) with ⟨rfl, h⟩ | ⟨y, hy, h⟩
    · exact ⟨_, List.mem_cons_self, by rw [h]; rfl⟩
    · exact ⟨y, List.mem_cons_of_mem _ (List.mem_append_right _ hy), h⟩
/-- The cursor below the root is not the root. -/
theorem not_root {w : World} {base : Nat} {F : Nat → Bool} {C : List Fr} {d : DT} (h : KInv w base F (plug C d).nodes) (hC : C ≠ []) : d.b ≠ (plug C d).b := by
  rcases root_in C d with ⟨h0, _⟩ | ⟨y, hy, hyb⟩
  · exact absurd h0 hC
  · have ha := (List.pairwise_cons.1 h.cursor.apart).1 y (List.mem_append_right _ hy)
    rw [← hyb]
    exact ha.1
/-- A child of the cursor's: its flag is told. -/
theorem kid_flag {w : World} {base rb : Nat} {F : Nat → Bool} {C : List Fr} {d : DT} (h : KInv w base F (plug C d).nodes) (hr : (plug C d).b = rb) (hf : FlagOK F rb rb (plug C d).nodes) {j : Nat} (hj : j < d.kids.length) :
    F (d.kids[j].2).b = (d.kids[j].2).kids.isEmpty ∧ (d.kids[j].2).b ≠ rb := by
  have e := plug_down C d j hj
  have hne : (d.kids[j].2).b ≠ rb := by
    rw [← hr, e]
    exact not_root (e ▸ h) (by simp)
  refine ⟨?_, hne⟩
  have := hf.2 ⟨(d.kids[j].2).b, (d.kids[j].2).v, ends (d.kids[j].2).kids⟩ (by rw [e]; exact cursor_mem _ _) hne hne
  rw [this]
  cases (d.kids[j].2).kids <;> simp [ends]
/-- Behind a child more. -/
theorem grow_flag {w1 : World} {base rb c : Nat} {F : Nat → Bool} {C : List Fr} {d : DT} {n : ByteArray} {v1 : Value} {b' : Nat} (hT : KInv w1 base F (plug C d).nodes) (hr : (plug C d).b = rb) (hf : FlagOK F rb c (plug C d).nodes) (hc : c = rb ∨ c = d.b)
    (hd : F d.b = false) (hbs : w1.heap.size ≤ b') (hrb : rb < w1.heap.size) : FlagOK (upF F b' false) rb b' (plug (⟨d.b, v1, d.kids, n, []⟩ :: C) (.mk b' (.slice none 0 0) [])).nodes := by
  have hcur := hT.cursor
  have hx := hcur.ok _ List.mem_cons_self
  obtain ⟨tx, hcx⟩ := hx.cell
  have hdl : d.b < w1.heap.size := lt_of_heap hcx
  have ha := (List.pairwise_cons.1 hcur.apart).1
  refine ⟨by rw [upF_other _ _ (by omega)]; exact hf.1, fun x hx1 hxr hxc => ?_⟩
  have := (nodes_new C d n v1 b').mem_iff.1 hx1
  simp only [List.mem_cons] at this
  rcases this with rfl | rfl | hx2
  · exact absurd rfl hxc
  · rw [upF_other _ _ (by show d.b ≠ b'; omega)]
    show F d.b = _
    rw [hd]
    simp
  · rw [upF_other _ _ hxc]
    have hxd := (ha x hx2).1
    refine hf.2 x ?_ hxr ?_
    · refine (nodes_plug C d).mem_iff.2 ?_
      rw [nodes_eq]
      exact List.mem_cons_of_mem _ hx2
    · rcases hc with rfl | rfl
      · exact hxr
      · exact fun e => hxd e.symm
/-- Behind the end. -/
theorem finish_flag {w : World} {base rb c : Nat} {F : Nat → Bool} {C : List Fr} {d : DT} (hT : KInv w base F (plug C d).nodes) (hf : FlagOK F rb c (plug C d).nodes) (hc : c = rb ∨ c = d.b) (hdr : d.b ≠ rb) :
    FlagOK (upF F d.b true) rb rb (plug C (.mk d.b (.slice none 0 0) [])).nodes := by
  have hcur := hT.cursor
  have ha := (List.pairwise_cons.1 hcur.apart).1
  refine ⟨by rw [upF_other _ _ (Ne.symm hdr)]; exact hf.1, fun x hx1 hxr _ => ?_⟩
  have := (nodes_clear C d).mem_iff.1 hx1
  rcases List.mem_cons.1 this with rfl | hx2
  · rw [upF_same]; rfl
  · have hxd := (ha x (List.mem_append_right _ hx2)).1
    rw [upF_other _ _ (fun e => hxd e.symm)]
    refine hf.2 x ?_ hxr ?_
    · refine (nodes_plug C d).mem_iff.2 (List.mem_append_right _ hx2)
    · rcases hc with rfl | rfl
      · exact hxr
      · exact fun e => hxd e.symm
end Go.Proofs.Ytjifoimkjgepcaa.Flt
