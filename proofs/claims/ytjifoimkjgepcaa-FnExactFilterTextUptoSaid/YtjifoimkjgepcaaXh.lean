/-
  The reference's tree: a child more, and a node that ends.
-/
import Derived.Test.YtjifoimkjgepcaaXg
set_option linter.unusedVariables false
set_option linter.unusedSimpArgs false
namespace Go.Proofs.Ytjifoimkjgepcaa.Flt
open Go.RowKit Go.Proofs.Ytjifoimkjgepcaa.K Go.Proofs.Ytjifoimkjgepcaa.Fx Go.Proofs.YtjifoimkjgepcaaW.PrintWords

def upF (F : Nat → Bool) (b : Nat) (v : Bool) : Nat → Bool := fun k => if k = b then v else F k
theorem upF_same (F : Nat → Bool) (b : Nat) (v : Bool) : upF F b v b = v := by simp [upF]
theorem upF_other (F : Nat → Bool) {b k : Nat} (v : Bool) (h : k ≠ b) : upF F b v k = F k := by simp [upF, h]
/-- A child more at the cursor: the cursor goes to it. -/
theorem kgrow {w1 w5 : World} {base : Nat} {F : Nat → Bool} {C : List Fr} {d : DT} {n : ByteArray} {v1 : Value} {b' : Nat}
    (hT : KInv w1 base F (plug C d).nodes)
    (hk : ∀ q, q < w1.heap.size → q ≠ d.b → some q ≠ d.v.ownBlock → w5.heap[q]? = w1.heap[q]?)
    (hd : ∀ text l v, w1.heap[d.b]? = some (.cells #[.string text, l, v] tK (0, 0)) → w5.heap[d.b]? = some (.cells #[.string text, l, v1] tK (0, 0)))
    (hb : base ≤ b') (hbs : w1.heap.size ≤ b') (hbw : w5.heap[b']? = some (.cells #[.string n, .bool false, .slice none 0 0] tK (0, 0)))
    (ho : w5.ownsRow base tPk 1 v1 (ends d.kids ++ [(n, b')]).length (ptrs (ends d.kids ++ [(n, b')])))
    (hat : v1.ownBlock = d.v.ownBlock ∨ ∃ g, v1.ownBlock = some g ∧ w1.heap.size ≤ g) :
    KInv w5 base (upF F b' false) (plug (⟨d.b, v1, d.kids, n, []⟩ :: C) (.mk b' (.slice none 0 0) [])).nodes := by
  have hc := hT.cursor
  have hx := hc.ok _ List.mem_cons_self
  obtain ⟨tx, hcx⟩ := hx.cell
  have hdlt : d.b < w1.heap.size := lt_of_heap hcx
  have hnew : KOK w5 base (upF F b' false) ⟨b', .slice none 0 0, []⟩ := ⟨hb, ⟨n, by rw [upF_same]; exact hbw⟩, .inl ⟨rfl, rfl⟩, fun e he => by cases he⟩
  have hx' : KOK w5 base (upF F b' false) ⟨d.b, v1, ends d.kids ++ [(n, b')]⟩ := by
    refine ⟨hx.low, ⟨tx, by rw [upF_other _ _ (by show d.b ≠ b'; omega)]; exact hd _ _ _ hcx⟩, .inr ⟨by simp, ho⟩, fun e he => ?_⟩
    rcases List.mem_append.1 he with he | he
    · obtain ⟨l, v, hc1⟩ := hx.kid e he
      by_cases hb2 : e.2 = d.b
      · rw [hb2] at hc1 ⊢
        exact ⟨_, _, hd _ _ _ hc1⟩
      · refine ⟨l, v, ?_⟩
        rw [hk e.2 (lt_of_heap hc1) hb2 ?_]
        · exact hc1
        · intro e'
          obtain ⟨cur, hcc⟩ := hx.arr e'.symm
          exact typ_ne hc1 hcc (by decide) rfl
    · rw [List.mem_singleton] at he
      subst he
      exact ⟨_, _, hbw⟩
  have h := hc.upd (G := upF F b' false) (x' := ⟨d.b, v1, ends d.kids ++ [(n, b')]⟩) (N := [⟨b', .slice none 0 0, []⟩]) rfl (.inr hat) hk (fun text l v hh => ⟨_, _, hd _ _ _ hh⟩)
    (fun k hkk _ => upF_other _ _ (by omega)) hx' (by
    intro y hy
    rw [List.mem_singleton] at hy
    subst hy
    exact ⟨hnew, rfl, hbs⟩) (List.pairwise_singleton _ _)
  refine h.perm ?_
  exact (List.Perm.swap _ _ _).trans (nodes_new C d n v1 b').symm
/-- The cursor's node ends: it is a leaf. -/
theorem kfinish {w : World} {base : Nat} {F : Nat → Bool} {C : List Fr} {d : DT} (hT : KInv w base F (plug C d).nodes) :
    KInv ((w.setCell ⟨d.b, 1, none⟩ (.bool true)).setCell ⟨d.b, 2, none⟩ (.slice none 0 0)) base (upF F d.b true) (plug C (.mk d.b (.slice none 0 0) [])).nodes := by
  have hc := hT.cursor
  have hx := hc.ok _ List.mem_cons_self
  obtain ⟨tx, hcx⟩ := hx.cell
  have hset : ∀ text l v, w.heap[d.b]? = some (.cells #[.string text, l, v] tK (0, 0)) → ((w.setCell ⟨d.b, 1, none⟩ (.bool true)).setCell ⟨d.b, 2, none⟩ (.slice none 0 0)).heap[d.b]? = some (.cells #[.string text, .bool true, .slice none 0 0] tK (0, 0)) := by
    intro text l v hh
    rw [heap_set (heap_set hh 1 _) 2 _]
    rfl
  have hx' : KOK ((w.setCell ⟨d.b, 1, none⟩ (.bool true)).setCell ⟨d.b, 2, none⟩ (.slice none 0 0)) base (upF F d.b true) ⟨d.b, .slice none 0 0, []⟩ :=
    ⟨hx.low, ⟨tx, by rw [upF_same]; exact hset _ _ _ hcx⟩, .inl ⟨rfl, rfl⟩, fun e he => by cases he⟩
  have h := hc.upd (G := upF F d.b true) (x' := ⟨d.b, .slice none 0 0, []⟩) (N := []) rfl (.inl rfl) (fun k _ hk _ => by rw [heap_set_ne hk, heap_set_ne hk]) (fun text l v hh => ⟨_, _, hset _ _ _ hh⟩)
    (fun k _ hk => upF_other _ _ hk) hx' (fun y hy => by cases hy) List.Pairwise.nil
  refine KInv.perm (h.sub ?_) (nodes_clear C d).symm
  exact List.Sublist.cons_cons _ (List.sublist_append_right _ _)
/-- What is still to be put at a node. -/
def addE : List ByteArray → FT → FT
  | [], _ => .mk []
  | v :: r, t => addT (v :: r) t
theorem addE_nil (r : List ByteArray) : addT r (.mk []) = addE r (.mk []) := by cases r <;> rfl
theorem addE_none {v : ByteArray} {fs : List ByteArray} {d : DT} (h : ixN v ((ends d.kids).map (·.1)) = none) : addE (v :: fs) d.strip = .mk (d.strip.kids ++ [(v, addE fs (.mk []))]) := by
  rw [addE, addT_none h, addE_nil]
theorem addE_leaf {v : ByteArray} {fs : List ByteArray} {d : DT} {j : Nat} (h : ixN v ((ends d.kids).map (·.1)) = some j) (hj : j < d.kids.length) (hl : d.kids[j].2.kids = []) : addE (v :: fs) d.strip = d.strip := addT_leaf h hj hl
theorem addE_on {v : ByteArray} {fs : List ByteArray} {d : DT} {j : Nat} (h : ixN v ((ends d.kids).map (·.1)) = some j) (hj : j < d.kids.length) (hl : d.kids[j].2.kids ≠ []) :
    addE (v :: fs) d.strip = .mk (d.strip.kids.set j (d.kids[j].1, addE fs d.kids[j].2.strip)) := by
  cases fs with
  | nil => exact addT_tail h hj hl
  | cons a r => exact addT_on h hj hl (by simp)
end Go.Proofs.Ytjifoimkjgepcaa.Flt
