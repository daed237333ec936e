/-
  The reference's tree of filters in memory, with what it owns. F: whether a block's node is a leaf.
-/
import Derived.Test.YtjifoimkjgepcaaXf
set_option linter.unusedVariables false
set_option linter.unusedSimpArgs false
namespace Go.Proofs.Ytjifoimkjgepcaa.Flt
open Go.RowKit Go.Proofs.Ytjifoimkjgepcaa.K Go.Proofs.Ytjifoimkjgepcaa.Fx Go.Proofs.YtjifoimkjgepcaaW.PrintWords

abbrev tK : Nat := 107
abbrev tPk : Nat := 71
def ptrs (es : List (ByteArray × Nat)) : List Value := es.map fun e => .pointer (some ⟨e.2, 0, none⟩)
/-- A node in memory: its text, its flag, its row of children; of a child its text is told. -/
structure KOK (w : World) (base : Nat) (F : Nat → Bool) (x : Nd) : Prop where
  low : base ≤ x.b
  cell : ∃ text : ByteArray, w.heap[x.b]? = some (.cells #[.string text, .bool (F x.b), x.v] tK (0, 0))
  row : (x.es = [] ∧ x.v = .slice none 0 0) ∨ (x.es ≠ [] ∧ w.ownsRow base tPk 1 x.v x.es.length (ptrs x.es))
  kid : ∀ e ∈ x.es, ∃ l v, w.heap[e.2]? = some (.cells #[.string e.1, l, v] tK (0, 0))
theorem KOK.arr {w : World} {base : Nat} {F : Nat → Bool} {x : Nd} (h : KOK w base F x) {g : Nat} (hg : x.v.ownBlock = some g) : ∃ cur, w.heap[g]? = some (.cells cur tPk (0, 0)) := by
  rcases h.row with ⟨_, hv⟩ | ⟨_, ho⟩
  · rw [hv] at hg; simp [Value.ownBlock] at hg
  · exact own_heap ho hg
/-- A node of w is read. -/
theorem KOK.fan {w : World} {base : Nat} {F : Nat → Bool} {x : Nd} (h : KOK w base F x) (hm : x.es.length ≤ maxLen) : KFan w x := by
  obtain ⟨text, hc⟩ := h.cell
  refine ⟨hm, ?_⟩
  rcases h.row with ⟨he, hv⟩ | ⟨hne, ho⟩
  · refine ⟨none, 0, ?_, fun j hj => by simp [he] at hj⟩
    rw [cell_of_heap hc, he, ← List.length_nil (α := ByteArray × Nat)]
    simp [hv]
  · rcases ho.2 with ⟨_, h0⟩ | ⟨g, cap, cur, hv, _, hh, h1, h2, h3, h4⟩
    · exact absurd (List.length_eq_zero_iff.1 h0) hne
    · refine ⟨some ⟨g, 0, none⟩, cap, by rw [cell_of_heap hc, ← hv]; rfl, fun j hj => ⟨g, rfl, ?_, ?_⟩⟩
      · rw [cell_of_heap hh, ← Array.getElem?_toList]
        have h5 := congrArg (fun l => l[j]?) h4
        simp only [Nat.mul_one] at h5
        rw [List.getElem?_take_of_lt hj] at h5
        rw [h5]
        simp [ptrs, hj]
      · obtain ⟨l, v, hk⟩ := h.kid _ (List.getElem_mem hj)
        rw [cell_of_heap hk]; rfl
/-- What is written is x's own, but not its text: y stays. -/
theorem KOK.keep {w w' : World} {base : Nat} {F G : Nat → Bool} {x y : Nd} (hx : KOK w base F x) (hy : KOK w base F y) (ha : Apart x y) (hF : G y.b = F y.b)
    (hk : ∀ k, k < w.heap.size → k ≠ x.b → some k ≠ x.v.ownBlock → w'.heap[k]? = w.heap[k]?)
    (hxb : ∀ text l v, w.heap[x.b]? = some (.cells #[.string text, l, v] tK (0, 0)) → ∃ l' v', w'.heap[x.b]? = some (.cells #[.string text, l', v'] tK (0, 0))) : KOK w' base G y := by
  obtain ⟨tx, hcx⟩ := hx.cell
  obtain ⟨ty, hcy⟩ := hy.cell
  have na : ∀ {k : Nat} {c : Array Value} {t : Nat}, w.heap[k]? = some (.cells c t (0, 0)) → t ≠ tPk → some k ≠ x.v.ownBlock := by
    intro k c t h ht e
    obtain ⟨cur, hc⟩ := hx.arr e.symm
    exact typ_ne h hc ht rfl
  refine ⟨hy.low, ⟨ty, ?_⟩, ?_, ?_⟩
  · rw [hk y.b (lt_of_heap hcy) (fun e => ha.1 e.symm) (na hcy (by decide)), hF]
    exact hcy
  · rcases hy.row with h0 | ⟨hne, ho⟩
    · exact .inl h0
    · refine .inr ⟨hne, own_keep ho fun k hkk => ?_⟩
      obtain ⟨cur, hc⟩ := own_heap ho hkk
      exact hk k (lt_of_heap hc) (typ_ne hc hcx (by decide)) (fun e => ha.2 ⟨k, e.symm, hkk⟩)
  · intro e he
    obtain ⟨l, v, hc⟩ := hy.kid e he
    by_cases hb : e.2 = x.b
    · rw [hb] at hc ⊢
      exact hxb _ _ _ hc
    · exact ⟨l, v, by rw [hk e.2 (lt_of_heap hc) hb (na hc (by decide))]; exact hc⟩
structure KInv (w : World) (base : Nat) (F : Nat → Bool) (L : List Nd) : Prop where
  ok : ∀ x ∈ L, KOK w base F x
  apart : L.Pairwise Apart
theorem KInv.perm {w : World} {base : Nat} {F : Nat → Bool} {L M : List Nd} (h : KInv w base F L) (p : L.Perm M) : KInv w base F M :=
  ⟨fun x hx => h.ok x (p.mem_iff.2 hx), (p.pairwise_iff (fun h => h.symm)).1 h.apart⟩
theorem KInv.sub {w : World} {base : Nat} {F : Nat → Bool} {L M : List Nd} (h : KInv w base F L) (p : M.Sublist L) : KInv w base F M :=
  ⟨fun x hx => h.ok x (p.subset hx), h.apart.sublist p⟩
/-- One node is changed, new ones are made: all others stay. -/
theorem KInv.upd {w w' : World} {base : Nat} {F G : Nat → Bool} {x x' : Nd} {L N : List Nd} (h : KInv w base F (x :: L)) (hb : x'.b = x.b)
    (hv : x'.v.ownBlock = none ∨ x'.v.ownBlock = x.v.ownBlock ∨ ∃ g, x'.v.ownBlock = some g ∧ w.heap.size ≤ g)
    (hk : ∀ k, k < w.heap.size → k ≠ x.b → some k ≠ x.v.ownBlock → w'.heap[k]? = w.heap[k]?)
    (hxb : ∀ text l v, w.heap[x.b]? = some (.cells #[.string text, l, v] tK (0, 0)) → ∃ l' v', w'.heap[x.b]? = some (.cells #[.string text, l', v'] tK (0, 0)))
    (hG : ∀ k, k < w.heap.size → k ≠ x.b → G k = F k)
    (hx' : KOK w' base G x') (hN : ∀ y ∈ N, KOK w' base G y ∧ y.v = .slice none 0 0 ∧ w.heap.size ≤ y.b) (hNN : N.Pairwise Apart) : KInv w' base G (x' :: (N ++ L)) := by
  have hx := h.ok x List.mem_cons_self
  obtain ⟨hxa, hLa⟩ := List.pairwise_cons.1 h.apart
  have hL : ∀ y ∈ L, KOK w' base G y := fun y hy => by
    have hyo := h.ok y (List.mem_cons_of_mem _ hy)
    obtain ⟨ty, hcy⟩ := hyo.cell
    exact hx.keep hyo (hxa y hy) (hG _ (lt_of_heap hcy) (fun e => (hxa y hy).1 e.symm)) hk hxb
  obtain ⟨tx, hcx⟩ := hx.cell
  refine ⟨?_, ?_⟩
  · intro y hy
    rcases List.mem_cons.1 hy with rfl | hy
    · exact hx'
    · rcases List.mem_append.1 hy with hy | hy
      · exact (hN y hy).1
      · exact hL y hy
  · refine List.pairwise_cons.2 ⟨?_, List.pairwise_append.2 ⟨hNN, hLa, ?_⟩⟩
    · intro y hy
      rcases List.mem_append.1 hy with hy | hy
      · obtain ⟨_, h2, h3⟩ := hN y hy
        refine ⟨?_, ?_⟩
        · have := lt_of_heap hcx; rw [hb]; omega
        · rintro ⟨k, _, h⟩
          rw [h2] at h; simp [Value.ownBlock] at h
      · have ha := hxa y hy
        refine ⟨by rw [hb]; exact ha.1, ?_⟩
        rintro ⟨k, h1, h2⟩
        rcases hv with hv | hv | ⟨g, hg, hgs⟩
        · rw [hv] at h1; cases h1
        · exact ha.2 ⟨k, hv ▸ h1, h2⟩
        · rw [hg] at h1
          injection h1 with h1
          obtain ⟨cur, hc⟩ := (h.ok y (List.mem_cons_of_mem _ hy)).arr h2
          have := lt_of_heap hc
          omega
    · intro y hy z hz
      obtain ⟨_, h2, h3⟩ := hN y hy
      obtain ⟨tz, hcz⟩ := (h.ok z (List.mem_cons_of_mem _ hz)).cell
      have := lt_of_heap hcz
      refine ⟨by omega, ?_⟩
      rintro ⟨k, h, _⟩
      rw [h2] at h; simp [Value.ownBlock] at h
theorem KInv.cursor {w : World} {base : Nat} {F : Nat → Bool} {C : List Fr} {d : DT} (h : KInv w base F (plug C d).nodes) : KInv w base F (⟨d.b, d.v, ends d.kids⟩ :: (DT.nodesL d.kids ++ nodesC C d.b)) := by
  have := h.perm (nodes_plug C d)
  rw [nodes_eq] at this
  exact this
theorem KOK.heap_keep {w w' : World} {base : Nat} {F : Nat → Bool} {y : Nd} (hy : KOK w base F y) (hk : ∀ k, k < w.heap.size → w'.heap[k]? = w.heap[k]?) : KOK w' base F y := by
  obtain ⟨ty, hcy⟩ := hy.cell
  refine ⟨hy.low, ⟨ty, by rw [hk y.b (lt_of_heap hcy)]; exact hcy⟩, ?_, fun e he => ?_⟩
  · rcases hy.row with h0 | ⟨hne, ho⟩
    · exact .inl h0
    · refine .inr ⟨hne, own_keep ho fun k hkk => ?_⟩
      obtain ⟨cur, hc⟩ := own_heap ho hkk
      exact hk k (lt_of_heap hc)
  · obtain ⟨l, v, hc⟩ := hy.kid e he
    exact ⟨l, v, by rw [hk e.2 (lt_of_heap hc)]; exact hc⟩
theorem KInv.below {w w' : World} {base : Nat} {F : Nat → Bool} {L : List Nd} (h : KInv w base F L) (hb : Below w.heap.size w w') : KInv w' base F L :=
  ⟨fun x hx => (h.ok x hx).heap_keep hb.block, h.apart⟩
end Go.Proofs.Ytjifoimkjgepcaa.Flt
