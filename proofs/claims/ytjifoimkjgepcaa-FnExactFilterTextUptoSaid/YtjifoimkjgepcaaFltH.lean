/-
  The filters' tree in memory, and the walks of has, isLeaf, add and Match over it.
-/
import Derived.Test.YtjifoimkjgepcaaRows
import Derived.Test.YtjifoimkjgepcaaFltM
import Derived.Test.YtjifoimkjgepcaaK
import Derived.WalkKit
import Derived.WalkSpells
import Derived.WalkLawsBesides
import Derived.Deep.LoopGhost
import Derived.Outline
import Derived.Lib.Hide
set_option linter.unusedVariables false
set_option linter.unusedSimpArgs false
namespace Go.Proofs.Ytjifoimkjgepcaa.Flt
open Go.RowKit Go.Proofs.Ytjifoimkjgepcaa.K

/-- A node in memory: its slice's row leads to its edges, each to its name and its child's block. -/
structure NodeOK (w : World) (base : Nat) (x : Nd) : Prop where
  low : base ≤ x.b
  cell : ∃ t, (t = 111 ∨ t = 113) ∧ w.heap[x.b]? = some (.cells #[x.v] t (0, 0))
  row : (x.es = [] ∧ x.v = .slice none 0 0) ∨ (x.es ≠ [] ∧ ∃ ps : List Nat, ps.length = x.es.length ∧
    w.ownsRow base 145 1 x.v x.es.length (ps.map fun p => .pointer (some ⟨p, 0, none⟩)) ∧
    ∀ j (h : j < x.es.length) p, ps[j]? = some p → base ≤ p ∧ w.heap[p]? = some (.cells #[.string x.es[j].1, .pointer (some ⟨x.es[j].2, 0, none⟩)] 144 (0, 0)))

theorem NodeOK.arr {w : World} {base : Nat} {x : Nd} (h : NodeOK w base x) {g : Nat} (hg : x.v.ownBlock = some g) : ∃ cur, w.heap[g]? = some (.cells cur 145 (0, 0)) := by
  rcases h.row with ⟨_, hv⟩ | ⟨_, ps, _, ho, _⟩
  · rw [hv] at hg; simp [Value.ownBlock] at hg
  · exact own_heap ho hg
def Apart (x y : Nd) : Prop := x.b ≠ y.b ∧ ¬ ∃ k, x.v.ownBlock = some k ∧ y.v.ownBlock = some k
theorem Apart.symm {x y : Nd} (h : Apart x y) : Apart y x := ⟨fun e => h.1 e.symm, fun ⟨k, a, b⟩ => h.2 ⟨k, b, a⟩⟩
/-- What is written is x's own: y stays. -/
theorem NodeOK.keep {w w' : World} {base : Nat} {x y : Nd} (hx : NodeOK w base x) (hy : NodeOK w base y) (ha : Apart x y)
    (hk : ∀ k, k < w.heap.size → k ≠ x.b → some k ≠ x.v.ownBlock → w'.heap[k]? = w.heap[k]?) : NodeOK w' base y := by
  obtain ⟨tx, htx, hcx⟩ := hx.cell
  obtain ⟨ty, hty, hcy⟩ := hy.cell
  have nb : ∀ {k : Nat} {c : Array Value} {t : Nat}, w.heap[k]? = some (.cells c t (0, 0)) → (t = 145 ∨ t = 144) → k ≠ x.b := by
    intro k c t h ht
    refine typ_ne h hcx ?_
    rcases ht with rfl | rfl <;> rcases htx with rfl | rfl <;> decide
  have na : ∀ {k : Nat} {c : Array Value} {t : Nat}, w.heap[k]? = some (.cells c t (0, 0)) → t ≠ 145 → some k ≠ x.v.ownBlock := by
    intro k c t h ht e
    obtain ⟨cur, hc⟩ := hx.arr e.symm
    exact typ_ne h hc ht rfl
  refine ⟨hy.low, ⟨ty, hty, ?_⟩, ?_⟩
  · rw [hk y.b (lt_of_heap hcy) (fun e => ha.1 e.symm) (na hcy (by rcases hty with rfl | rfl <;> decide))]
    exact hcy
  · rcases hy.row with h0 | ⟨hne, ps, hl, ho, he⟩
    · exact .inl h0
    · refine .inr ⟨hne, ps, hl, own_keep ho ?_, ?_⟩
      · intro k hkk
        obtain ⟨cur, hc⟩ := own_heap ho hkk
        exact hk k (lt_of_heap hc) (nb hc (.inl rfl)) (fun e => ha.2 ⟨k, e.symm, hkk⟩)
      · intro j hj p hp
        obtain ⟨h1, h2⟩ := he j hj p hp
        exact ⟨h1, by rw [hk p (lt_of_heap h2) (nb h2 (.inr rfl)) (na h2 (by decide))]; exact h2⟩

structure TreeInv (w : World) (base : Nat) (L : List Nd) : Prop where
  ok : ∀ x ∈ L, NodeOK w base x
  apart : L.Pairwise Apart
theorem TreeInv.perm {w : World} {base : Nat} {L M : List Nd} (h : TreeInv w base L) (p : L.Perm M) : TreeInv w base M :=
  ⟨fun x hx => h.ok x (p.mem_iff.2 hx), (p.pairwise_iff (fun h => h.symm)).1 h.apart⟩

/-- One node is changed, new ones are made: all others stay. -/
theorem TreeInv.upd {w w' : World} {base : Nat} {x x' : Nd} {L N : List Nd} (h : TreeInv w base (x :: L)) (hb : x'.b = x.b)
    (hv : x'.v.ownBlock = none ∨ x'.v.ownBlock = x.v.ownBlock ∨ ∃ g, x'.v.ownBlock = some g ∧ w.heap.size ≤ g)
    (hk : ∀ k, k < w.heap.size → k ≠ x.b → some k ≠ x.v.ownBlock → w'.heap[k]? = w.heap[k]?)
    (hx' : NodeOK w' base x') (hN : ∀ y ∈ N, NodeOK w' base y ∧ y.v = .slice none 0 0 ∧ w.heap.size ≤ y.b) (hNN : N.Pairwise Apart) : TreeInv w' base (x' :: (N ++ L)) := by
  have hx := h.ok x List.mem_cons_self
  obtain ⟨hxa, hLa⟩ := List.pairwise_cons.1 h.apart
  have hL : ∀ y ∈ L, NodeOK w' base y := fun y hy => hx.keep (h.ok y (List.mem_cons_of_mem _ hy)) (hxa y hy) hk
  obtain ⟨tx, htx, hcx⟩ := hx.cell
  refine ⟨?_, ?_⟩
  · intro y hy
    rcases List.mem_cons.1 hy with rfl | hy
    · exact hx'
    · rcases List.mem_append.1 hy with hy | hy
      · exact (hN y hy).1
      · exact hL y hy
  · refine List.pairwise_cons.2 ⟨?_, List.pairwise_append.2 ⟨hNN, hLa, ?_⟩⟩
    · intro y hy
      rcases List.mem_append.1 hy with hy | hy
      · obtain ⟨_, h2, h3⟩ := hN y hy
        refine ⟨?_, ?_⟩
        · have := lt_of_heap hcx; rw [hb]; omega
        · rintro ⟨k, _, h⟩
          rw [h2] at h; simp [Value.ownBlock] at h
      · have ha := hxa y hy
        refine ⟨by rw [hb]; exact ha.1, ?_⟩
        rintro ⟨k, h1, h2⟩
        rcases hv with hv | hv | ⟨g, hg, hgs⟩
        · rw [hv] at h1; cases h1
        · exact ha.2 ⟨k, hv ▸ h1, h2⟩
        · rw [hg] at h1
          injection h1 with h1
          obtain ⟨cur, hc⟩ := (h.ok y (List.mem_cons_of_mem _ hy)).arr h2
          have := lt_of_heap hc
          omega
    · intro y hy z hz
      obtain ⟨_, h2, h3⟩ := hN y hy
      obtain ⟨tz, _, hcz⟩ := (h.ok z (List.mem_cons_of_mem _ hz)).cell
      have := lt_of_heap hcz
      refine ⟨by omega, ?_⟩
      rintro ⟨k, h, _⟩
      rw [h2] at h; simp [Value.ownBlock] at h

/-- The fanout as it is read. -/
def Fan (w : World) (A : Option Addr) (es : List (ByteArray × Nat)) : Prop :=
  es.length ≤ maxLen ∧ ∀ j (h : j < es.length), ∃ b p, A = some ⟨b, 0, none⟩ ∧ w.cell? ⟨b, j, none⟩ = some (.pointer (some ⟨p, 0, none⟩)) ∧
    w.cell? ⟨p, 0, none⟩ = some (.string es[j].1) ∧ w.cell? ⟨p, 1, none⟩ = some (.pointer (some ⟨es[j].2, 0, none⟩))

theorem Fan.below {w w' : World} {A es} (h : Fan w A es) (hb : Below w.heap.size w w') : Fan w' A es := by
  refine ⟨h.1, fun j hj => ?_⟩
  obtain ⟨b, p, hA, h1, h2, h3⟩ := h.2 j hj
  have L := fun (a : Addr) (v : Value) (hc : w.cell? a = some v) => (hb.cell (World.block_lt_of_cell? w a hc)).trans hc
  exact ⟨b, p, hA, L _ _ h1, L _ _ h2, L _ _ h3⟩
/-- A node's slice, as has reads it. -/
theorem NodeOK.fan {w : World} {base : Nat} {x : Nd} (h : NodeOK w base x) : ∃ A c, x.v = .slice A x.es.length c ∧ Fan w A x.es ∧ (A.isNone = x.es.isEmpty) := by
  rcases h.row with ⟨he, hv⟩ | ⟨hne, ps, hl, ho, he⟩
  · refine ⟨none, 0, by rw [hv, he]; rfl, ⟨by simp [he, maxLen], fun j hj => by simp [he] at hj⟩, by simp [he]⟩
  · have hpos : x.es.length ≠ 0 := fun e => hne (List.eq_nil_of_length_eq_zero e)
    rcases ho.2 with ⟨hv, h0⟩ | ⟨g, cap, cur, hv, hg, hh, h1, h2, h3, h4⟩
    · exact absurd h0 hpos
    · refine ⟨_, cap, hv, ⟨by omega, fun j hj => ?_⟩, by cases hx : x.es <;> simp_all⟩
      have hjp : j < ps.length := by omega
      obtain ⟨_, hp⟩ := he j hj ps[j] (List.getElem?_eq_getElem hjp)
      refine ⟨g, ps[j], rfl, ?_, ?_, ?_⟩
      · rw [cell_of_heap hh]
        have e := congrArg (fun l => l[j]?) h4
        simp only [List.getElem?_take, Nat.mul_one, if_pos hj, List.getElem?_map, List.getElem?_eq_getElem hjp, Option.map_some] at e
        simpa using e
      · rw [cell_of_heap hp]; rfl
      · rw [cell_of_heap hp]; rfl

theorem NodeOK.heap_keep {w w' : World} {base : Nat} {y : Nd} (hy : NodeOK w base y) (hk : ∀ k, k < w.heap.size → w'.heap[k]? = w.heap[k]?) : NodeOK w' base y := by
  obtain ⟨ty, hty, hcy⟩ := hy.cell
  refine ⟨hy.low, ⟨ty, hty, by rw [hk y.b (lt_of_heap hcy)]; exact hcy⟩, ?_⟩
  rcases hy.row with h0 | ⟨hne, ps, hl, ho, he⟩
  · exact .inl h0
  · refine .inr ⟨hne, ps, hl, own_keep ho ?_, ?_⟩
    · intro k hkk
      obtain ⟨cur, hc⟩ := own_heap ho hkk
      exact hk k (lt_of_heap hc)
    · intro j hj p hp
      obtain ⟨h1, h2⟩ := he j hj p hp
      exact ⟨h1, by rw [hk p (lt_of_heap h2)]; exact h2⟩
theorem TreeInv.below {w w' : World} {base : Nat} {L : List Nd} (h : TreeInv w base L) (hb : Below w.heap.size w w') : TreeInv w' base L :=
  ⟨fun x hx => (h.ok x hx).heap_keep hb.block, h.apart⟩
/-- The node at the cursor. -/
theorem TreeInv.cursor {w : World} {base : Nat} {C : List Fr} {d : DT} (h : TreeInv w base (plug C d).nodes) : TreeInv w base (⟨d.b, d.v, ends d.kids⟩ :: (DT.nodesL d.kids ++ nodesC C d.b)) := by
  have := h.perm (nodes_plug C d)
  rw [nodes_eq] at this
  exact this
theorem cursor_mem (C : List Fr) (d : DT) : (⟨d.b, d.v, ends d.kids⟩ : Nd) ∈ (plug C d).nodes := by
  refine (nodes_plug C d).mem_iff.2 ?_
  rw [nodes_eq]
  exact List.mem_append_left _ List.mem_cons_self
/-- What the walk reads of a node. -/
theorem NodeOK.reads {w : World} {base : Nat} {x : Nd} (h : NodeOK w base x) : ∃ A c, x.v = .slice A x.es.length c ∧ Fan w A x.es ∧ A.isNone = x.es.isEmpty ∧ w.cell? ⟨x.b, 0, none⟩ = some (.slice A x.es.length c) ∧ w.frozen? ⟨x.b, 0, none⟩ = false ∧ x.b < w.heap.size := by
  obtain ⟨A, c, hv, hf, hn⟩ := h.fan
  obtain ⟨t, _, hc⟩ := h.cell
  refine ⟨A, c, hv, hf, hn, ?_, frozen_of_heap hc 0, lt_of_heap hc⟩
  rw [cell_of_heap hc, ← hv]; rfl

/-- A node's row, nil or not. -/
theorem NodeOK.owned {w : World} {base : Nat} {x : Nd} (h : NodeOK w base x) : ∃ xs : List Value, xs.length = x.es.length ∧ w.ownsRow base 145 1 x.v xs.length xs ∧
    ∀ j (h : j < x.es.length), ∃ p, xs[j]? = some (.pointer (some ⟨p, 0, none⟩)) ∧ base ≤ p ∧ w.heap[p]? = some (.cells #[.string x.es[j].1, .pointer (some ⟨x.es[j].2, 0, none⟩)] 144 (0, 0)) := by
  rcases h.row with ⟨he, hv⟩ | ⟨hne, ps, hl, ho, he⟩
  · exact ⟨[], by simp [he], by rw [hv]; exact World.ownsRow_nil _ _ _ _, fun j hj => by simp [he] at hj⟩
  · refine ⟨ps.map fun p => .pointer (some ⟨p, 0, none⟩), by simp [hl], by rw [List.length_map, hl]; exact ho, fun j hj => ?_⟩
    have hjp : j < ps.length := by omega
    obtain ⟨h1, h2⟩ := he j hj ps[j] (List.getElem?_eq_getElem hjp)
    exact ⟨ps[j], by simp [hjp], h1, h2⟩
def ptrBlock : Option Value → Nat
  | some (Value.pointer (some a)) => a.block
  | _ => 0
theorem node_of_owned {w : World} {base b : Nat} {v : Value} {es : List (ByteArray × Nat)} {xs : List Value} {t : Nat} (hb : base ≤ b) (ht : t = 111 ∨ t = 113) (hc : w.heap[b]? = some (.cells #[v] t (0, 0)))
    (hne : es ≠ []) (hl : xs.length = es.length) (ho : w.ownsRow base 145 1 v xs.length xs)
    (he : ∀ j (h : j < es.length), ∃ p, xs[j]? = some (.pointer (some ⟨p, 0, none⟩)) ∧ base ≤ p ∧ w.heap[p]? = some (.cells #[.string es[j].1, .pointer (some ⟨es[j].2, 0, none⟩)] 144 (0, 0))) : NodeOK w base ⟨b, v, es⟩ := by
  refine ⟨hb, ⟨t, ht, hc⟩, .inr ⟨hne, ?_⟩⟩
  have key : ∃ ps : List Nat, ps.length = es.length ∧ xs = ps.map fun p => .pointer (some ⟨p, 0, none⟩) := by
    refine ⟨(List.range es.length).map fun j => ptrBlock xs[j]?, by simp, ?_⟩
    apply List.ext_getElem?
    intro j
    by_cases hj : j < es.length
    · obtain ⟨p, hp, _⟩ := he j hj
      simp [hp, hj, ptrBlock]
    · simp [hj, hl]
  obtain ⟨ps, hps, rfl⟩ := key
  refine ⟨ps, hps, by rw [List.length_map, hps] at ho; exact ho, fun j hj p hp => ?_⟩
  obtain ⟨q, hq, h1, h2⟩ := he j hj
  rw [List.getElem?_map, hp] at hq
  simp at hq
  subst hq
  exact ⟨h1, h2⟩

/-- The nodes of a tree with a new leaf at the cursor. -/
theorem nodes_new (C : List Fr) (d : DT) (n : ByteArray) (v1 : Value) (b' : Nat) :
    ((plug (⟨d.b, v1, d.kids, n, []⟩ :: C) (.mk b' (.slice none 0 0) [])).nodes).Perm (⟨b', .slice none 0 0, []⟩ :: ⟨d.b, v1, ends d.kids ++ [(n, b')]⟩ :: (DT.nodesL d.kids ++ nodesC C d.b)) := by
  refine (nodes_plug _ _).trans ?_
  simp only [nodesC, DT.nodes, DT.b, ends, List.map_nil, DT.nodesL, List.append_nil, List.nil_append, List.singleton_append]
  exact List.Perm.refl _
theorem bound_new {C : List Fr} {d : DT} {n : ByteArray} {v1 : Value} {b' B : Nat} (h : ∀ x ∈ (plug C d).nodes, x.es.length ≤ B + 1) (hd : d.kids.length ≤ B) :
    ∀ x ∈ (plug (⟨d.b, v1, d.kids, n, []⟩ :: C) (.mk b' (.slice none 0 0) [])).nodes, x.es.length ≤ B + 1 := by
  intro x hx
  have := (nodes_new C d n v1 b').mem_iff.1 hx
  simp only [List.mem_cons] at this
  rcases this with rfl | rfl | hx
  · simp
  · simp [ends]; omega
  · refine h x ((nodes_plug C d).mem_iff.2 ?_)
    rw [nodes_eq]
    exact List.mem_cons_of_mem _ hx

/-- An edge more at the cursor, to a new leaf. -/
theorem grow_node {w1 w5 : World} {base : Nat} {C : List Fr} {d : DT} {n : ByteArray} {v1 : Value} {t e b' : Nat} {xs : List Value}
    (hT : TreeInv w1 base (plug C d).nodes) (hxl : xs.length = d.kids.length)
    (he : ∀ j (h : j < (ends d.kids).length), ∃ p, xs[j]? = some (.pointer (some ⟨p, 0, none⟩)) ∧ base ≤ p ∧ w1.heap[p]? = some (.cells #[.string (ends d.kids)[j].1, .pointer (some ⟨(ends d.kids)[j].2, 0, none⟩)] 144 (0, 0)))
    (hk : ∀ q, q < w1.heap.size → q ≠ d.b → some q ≠ d.v.ownBlock → w5.heap[q]? = w1.heap[q]?)
    (ht : t = 111 ∨ t = 113) (hd : w5.heap[d.b]? = some (.cells #[v1] t (0, 0)))
    (heb : base ≤ e) (hew : w5.heap[e]? = some (.cells #[.string n, .pointer (some ⟨b', 0, none⟩)] 144 (0, 0)))
    (hb : base ≤ b') (hbs : w1.heap.size ≤ b') (hbw : w5.heap[b']? = some (.cells #[.slice none 0 0] 111 (0, 0)))
    (ho : w5.ownsRow base 145 1 v1 (xs ++ [Value.pointer (some ⟨e, 0, none⟩)]).length (xs ++ [Value.pointer (some ⟨e, 0, none⟩)]))
    (hat : v1.ownBlock = d.v.ownBlock ∨ ∃ g, v1.ownBlock = some g ∧ w1.heap.size ≤ g) :
    TreeInv w5 base (plug (⟨d.b, v1, d.kids, n, []⟩ :: C) (.mk b' (.slice none 0 0) [])).nodes := by
  have hc := hT.cursor
  have hx := hc.ok _ List.mem_cons_self
  obtain ⟨tx, htx, hcx⟩ := hx.cell
  have hnew : NodeOK w5 base ⟨b', .slice none 0 0, []⟩ := ⟨hb, ⟨_, .inl rfl, hbw⟩, .inl ⟨rfl, rfl⟩⟩
  have hx' : NodeOK w5 base ⟨d.b, v1, ends d.kids ++ [(n, b')]⟩ := by
    refine node_of_owned hx.low ht hd (by simp) (by simp [hxl, ends]) ho ?_
    intro j hj
    by_cases hlt : j < (ends d.kids).length
    · obtain ⟨p, h1, h2, h3⟩ := he j hlt
      refine ⟨p, ?_, h2, ?_⟩
      · rw [List.getElem?_append_left (by simp [ends] at hlt; omega)]; exact h1
      · rw [List.getElem_append_left hlt, hk p (lt_of_heap h3) (typ_ne h3 hcx (by rcases htx with rfl | rfl <;> decide)) ?_]
        · exact h3
        · intro e'
          obtain ⟨cur, hcc⟩ := hx.arr e'.symm
          exact typ_ne h3 hcc (by decide) rfl
    · have hj' : j = (ends d.kids).length := by simp at hj; omega
      subst hj'
      refine ⟨e, ?_, heb, ?_⟩
      · simp [ends, ← hxl]
      · rw [List.getElem_append_right (by omega)]; simpa using hew
  have h := hc.upd (x' := ⟨d.b, v1, ends d.kids ++ [(n, b')]⟩) (N := [⟨b', .slice none 0 0, []⟩]) rfl (.inr hat) hk hx' (by
    intro y hy
    rw [List.mem_singleton] at hy
    subst hy
    exact ⟨hnew, rfl, hbs⟩) (List.pairwise_singleton _ _)
  refine h.perm ?_
  exact (List.Perm.swap _ _ _).trans (nodes_new C d n v1 b').symm

theorem TreeInv.sub {w : World} {base : Nat} {L M : List Nd} (h : TreeInv w base L) (p : M.Sublist L) : TreeInv w base M :=
  ⟨fun x hx => h.ok x (p.subset hx), h.apart.sublist p⟩
/-- The cursor's edges go. -/
theorem nodes_clear (C : List Fr) (d : DT) : ((plug C (.mk d.b (.slice none 0 0) [])).nodes).Perm (⟨d.b, .slice none 0 0, []⟩ :: nodesC C d.b) := by
  refine (nodes_plug _ _).trans ?_
  simp only [DT.nodes, DT.b, ends, List.map_nil, DT.nodesL, List.singleton_append]
  exact List.Perm.refl _
theorem clear_node {w : World} {base : Nat} {C : List Fr} {d : DT} (hT : TreeInv w base (plug C d).nodes) :
    TreeInv (w.setCell ⟨d.b, 0, none⟩ (.slice none 0 0)) base (plug C (.mk d.b (.slice none 0 0) [])).nodes := by
  have hc := hT.cursor
  have hx := hc.ok _ List.mem_cons_self
  obtain ⟨tx, htx, hcx⟩ := hx.cell
  have hx' : NodeOK (w.setCell ⟨d.b, 0, none⟩ (.slice none 0 0)) base ⟨d.b, .slice none 0 0, []⟩ :=
    ⟨hx.low, ⟨tx, htx, heap_set hcx 0 _⟩, .inl ⟨rfl, rfl⟩⟩
  have h := hc.upd (x' := ⟨d.b, .slice none 0 0, []⟩) (N := []) rfl (.inl rfl) (fun k _ hk _ => heap_set_ne hk _ _) hx' (fun y hy => by cases hy) List.Pairwise.nil
  refine TreeInv.perm (h.sub ?_) (nodes_clear C d).symm
  exact List.Sublist.cons_cons _ (List.sublist_append_right _ _)
theorem bound_clear {C : List Fr} {d : DT} {B : Nat} (h : ∀ x ∈ (plug C d).nodes, x.es.length ≤ B) : ∀ x ∈ (plug C (.mk d.b (.slice none 0 0) [])).nodes, x.es.length ≤ B := by
  intro x hx
  have := (nodes_clear C d).mem_iff.1 hx
  rcases List.mem_cons.1 this with rfl | hx
  · simp
  · exact h x ((nodes_plug C d).mem_iff.2 (List.mem_append_right _ hx))

theorem ret_i64 {a b : Int} (h : a = b) : Ending.returned (.int .i64 a) = .returned (.int .i64 b) := by rw [h]

end Go.Proofs.Ytjifoimkjgepcaa.Flt
