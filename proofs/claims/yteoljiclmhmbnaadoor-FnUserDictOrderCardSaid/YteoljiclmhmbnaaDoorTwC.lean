/-
  A double array, plain: keys below a node; what opening a node and a whole subtree leave of the rest.
-/
import Derived.Test.YteoljiclmhmbnaaDoorTwB
import Derived.Test.YteoljiclmhmbnaaDoorTwA
import Derived.Test.YteoljiclmhmbnaaDoorRows
import Derived.Deep.QuietTactic
import Derived.BigQuiet
import Derived.RegionTactic
import Derived.BigRegion
import Derived.Outline
import Derived.Deep.RegionLaw
import Derived.Laws.CopyRow
import Derived.ScopeJumps
import Derived.WalkMore
import Derived.Maps.OwnRows
import Derived.Maps.Views
set_option linter.unusedVariables false
set_option linter.unusedSimpArgs false
namespace Go.Proofs.YteoljiclmhmbnaaDoor.Da

/-- Keys' rests with identifiers; those behind a character; the first one that ends here. -/
abbrev Ks : Type := List (List Nat × Int)
def tails (ch : Nat) : Ks → Ks
  | [] => []
  | (s, id) :: r => match s with
    | [] => tails ch r
    | a :: s' => if a = ch then (s', id) :: tails ch r else tails ch r
def firstE : Ks → Option Int
  | [] => none
  | (s, id) :: r => match s with
    | [] => some id
    | _ :: _ => firstE r

/-- Node p of an array holds these keys; what lies below it is new. -/
inductive Tr (A : DA) (New : Nat → Prop) : Nat → Ks → Prop
  | node (p : Nat) (ks : Ks) (B : Nat) (hb : A.b p = B) (hB : 1 ≤ B)
      (leaf : ∀ id, firstE ks = some id → B < A.n ∧ A.c B = p ∧ New B ∧ A.b B = -id)
      (kid : ∀ ch, 1 ≤ ch → tails ch ks ≠ [] → B + ch < A.n ∧ A.c (B + ch) = p ∧ New (B + ch))
      (sub : ∀ ch, 1 ≤ ch → tails ch ks ≠ [] → Tr A New (B + ch) (tails ch ks))
      (none0 : firstE ks = none → ¬ (B < A.n ∧ A.c B = p))
      (none1 : ∀ ch, 1 ≤ ch → tails ch ks = [] → ¬ (B + ch < A.n ∧ A.c (B + ch) = p)) : Tr A New p ks

theorem Tr.new {A : DA} {N N' : Nat → Prop} (hN : ∀ i, N i → N' i) {p : Nat} {ks : Ks} (h : Tr A N p ks) : Tr A N' p ks := by
  induction h with
  | node p ks B hb hB leaf kid sub none0 none1 ih =>
    exact .node p ks B hb hB (fun id hid => ⟨(leaf id hid).1, (leaf id hid).2.1, hN _ (leaf id hid).2.2.1, (leaf id hid).2.2.2⟩) (fun ch h1 h2 => ⟨(kid ch h1 h2).1, (kid ch h1 h2).2.1, hN _ (kid ch h1 h2).2.2⟩) ih none0 none1

/-- What becomes of an array while nodes X are opened, and new ones below them: old cells stay; what is taken hangs below X or below what is new. -/
structure Ext (X : Nat → Prop) (A A' : DA) : Prop where
  n : A.n ≤ A'.n
  us : ∀ i, Us A i → Us A' i
  c : ∀ i, Us A i → i ≠ 0 → A'.c i = A.c i
  b : ∀ i, Us A i → ¬ X i → A'.b i = A.b i
  fresh : ∀ i, Us A' i → i ≠ 0 → Us A i ∨ (∃ q : Nat, A'.c i = q ∧ (X q ∨ ¬ Us A q) ∧ Us A' q)
theorem Ext.refl (X : Nat → Prop) (A : DA) : Ext X A A := ⟨Nat.le_refl _, fun _ h => h, fun _ _ _ => rfl, fun _ _ _ => rfl, fun _ h _ => .inl h⟩
theorem Ext.trans {X Y : Nat → Prop} {A B C : DA} (h1 : Ext X A B) (h2 : Ext Y B C) (hY : ∀ i, Y i → X i ∨ ¬ Us A i) : Ext X A C := by
  refine ⟨Nat.le_trans h1.n h2.n, fun i hi => h2.us i (h1.us i hi), fun i hi h0 => (h2.c i (h1.us i hi) h0).trans (h1.c i hi h0), fun i hi hx => ?_, fun i hi h0 => ?_⟩
  · refine (h2.b i (h1.us i hi) (fun hy => ?_)).trans (h1.b i hi hx)
    rcases hY i hy with h | h
    · exact hx h
    · exact h hi
  · rcases h2.fresh i hi h0 with h | ⟨q, hq, hor, hu⟩
    · rcases h1.fresh i h h0 with h' | ⟨q, hq, hor, hu⟩
      · exact .inl h'
      · exact .inr ⟨q, (h2.c i h h0).trans hq, hor, h2.us q hu⟩
    · refine .inr ⟨q, hq, ?_, hu⟩
      rcases hor with h | h
      · exact hY q h
      · exact .inr fun h' => h (h1.us q h')
theorem Ext.mono {X Y : Nat → Prop} {A B : DA} (h : Ext X A B) (hX : ∀ i, X i → Y i) : Ext Y A B :=
  ⟨h.n, h.us, h.c, fun i hi hy => h.b i hi (fun hx => hy (hX i hx)), fun i hi h0 => (h.fresh i hi h0).imp id (fun ⟨q, e, o, u⟩ => ⟨q, e, o.imp (hX q) id, u⟩)⟩

/-- A subtree stays. S: the cells that were used when its root was opened, and are none below it. -/
theorem Tr.stay {A A' : DA} {N X : Nat → Prop} (hE : Ext X A A') {p : Nat} {ks : Ks} (h : Tr A N p ks) (hp : Us A p) (hpX : ¬ X p) (hN : ∀ i, N i → ¬ X i ∧ i ≠ 0) : Tr A' N p ks := by
  induction h with
  | node p ks B hb hB leaf kid sub none0 none1 ih =>
    have used : ∀ i, i < A.n → A.c i = (p : Int) → Us A i := fun i hi hc => ⟨hi, .inr (by omega)⟩
    have no : ∀ i, i ≠ 0 → ¬ (i < A.n ∧ A.c i = p) → ¬ (i < A'.n ∧ A'.c i = p) := by
      rintro i h0 hn ⟨h1, h2⟩
      have hu' : Us A' i := ⟨h1, .inr (by omega)⟩
      rcases hE.fresh i hu' h0 with hu | ⟨q, hq, hor, _⟩
      · exact hn ⟨hu.1, (hE.c i hu h0).symm.trans h2⟩
      · have : q = p := by omega
        subst this
        rcases hor with h | h
        · exact hpX h
        · exact h hp
    refine .node p ks B ((hE.b p hp hpX).trans hb) hB ?_ ?_ ?_ ?_ ?_
    · intro id hid
      obtain ⟨h1, h2, h3, h4⟩ := leaf id hid
      have hu := used _ h1 h2
      exact ⟨Nat.lt_of_lt_of_le h1 hE.n, (hE.c _ hu (hN _ h3).2).trans h2, h3, (hE.b _ hu (hN _ h3).1).trans h4⟩
    · intro ch h1 h2
      obtain ⟨g1, g2, g3⟩ := kid ch h1 h2
      exact ⟨Nat.lt_of_lt_of_le g1 hE.n, (hE.c _ (used _ g1 g2) (hN _ g3).2).trans g2, g3⟩
    · intro ch h1 h2
      obtain ⟨g1, g2, g3⟩ := kid ch h1 h2
      exact ih ch h1 h2 (used _ g1 g2) (hN _ g3).1
    · intro h0
      exact no _ (by omega) (none0 h0)
    · intro ch h1 h2
      exact no _ (by omega) (none1 ch h1 h2)

/-- A node is opened at a base: its characters' cells are taken. -/
structure Opened (A A' : DA) (p B : Nat) (chars : List Nat) : Prop where
  ext : Ext (fun i => i = p) A A'
  base : A'.b p = B
  pos : 1 ≤ B
  kids : ∀ ch ∈ chars, B + ch < A'.n ∧ A'.c (B + ch) = p ∧ ¬ Us A (B + ch) ∧ A'.b (B + ch) < 0
  only : ∀ i, Us A' i → Us A i ∨ ∃ ch ∈ chars, i = B + ch

/-- A base is laid into a used cell. -/
def setB (A : DA) (i : Nat) (v : Int) : DA := { A with b := upd A.b i v }
theorem setB_fr (A : DA) (i : Nat) (v : Int) (j : Nat) : Fr (setB A i v) j ↔ Fr A j := Iff.rfl
theorem setB_us (A : DA) (i : Nat) (v : Int) (j : Nat) : Us (setB A i v) j ↔ Us A j := Iff.rfl
theorem setB_inv {A : DA} {M i : Nat} {v : Int} (h : Inv A M) (hu : Us A i) (h0 : i ≠ 0) (hv : -2147483647 ≤ v ∧ v ≤ 2147483647) : Inv (setB A i v) M := by
  refine { h with b0 := ?_, ring := ?_, rb := ?_ }
  · show upd A.b i v 0 = 1
    rw [upd_ne _ _ (fun e => h0 e.symm)]; exact h.b0
  · intro p q hpq
    have hpq' : Nx A p q := hpq
    have hq : q ≠ i := by rintro rfl; exact fr_not_us hpq'.2.1 hu
    show A.c p = _ ∧ upd A.b i v q = _
    rw [upd_ne _ _ hq]
    exact h.ring _ _ hpq'
  · intro j hj
    show -2147483647 ≤ upd A.b i v j ∧ upd A.b i v j ≤ 2147483647
    unfold upd
    split
    · exact hv
    · exact h.rb j hj
theorem setB_ext {A : DA} {i : Nat} {v : Int} : Ext (fun j => j = i) A (setB A i v) :=
  ⟨Nat.le_refl _, fun _ h => h, fun _ _ _ => rfl, fun j _ hj => upd_ne _ _ hj, fun _ h _ => .inl h⟩
/-- The program's setBase at a used cell. -/
def setBase (A : DA) (p : Nat) (v : Int) : DA := if p = 0 then A else setB A p v

/-- Marking: some characters' cells are taken, the others still to be. -/
structure Mk (A A' : DA) (p B : Nat) (done rest : List Nat) (M : Nat) : Prop where
  inv : Inv A' M
  op : Opened A A' p B done
  rest : Fits A' B rest
  lt : B < A'.n
theorem mk_start {A : DA} {M p B : Nat} {chars : List Nat} (h : Inv A M) (hp : Us A p) (h0 : p = 0 → B = 1) (hB : 1 ≤ B) (hlt : B < A.n) (hf : Fits A B chars) : Mk A (setBase A p B) p B [] chars M := by
  unfold setBase
  have hsz := h.size
  split
  · rename_i hp0
    subst hp0
    exact ⟨h, ⟨Ext.refl _ _, by rw [h.b0, h0 rfl]; rfl, hB, by simp, fun i hi => .inl hi⟩, hf, hlt⟩
  · rename_i hp0
    exact ⟨setB_inv h hp hp0 (by omega), ⟨setB_ext, upd_same _ _ _, hB, by simp, fun i hi => .inl hi⟩, hf, hlt⟩
theorem mk_grow {A A' : DA} {p B : Nat} {done rest : List Nat} {M : Nat} (h : Mk A A' p B done rest M) (hM : A'.n ≤ M + 3) (hp : Us A p) : Mk A (grown A') p B done rest M := by
  have hi := h.inv
  have hn : (grown A').n = 2 * A'.n := rfl
  refine ⟨grown_inv hi hM, ⟨?_, ?_, h.op.pos, ?_, ?_⟩, ?_, by have := h.lt; omega⟩
  · have hE : Ext (fun i => i = p) A' (grown A') := ⟨by omega, fun i hu => (grown_us hi i).2 hu, fun i hu _ => (grown_old hi hu).1, fun i hu _ => (grown_old hi hu).2, fun i hu _ => .inl ((grown_us hi i).1 hu)⟩
    exact h.op.ext.trans hE (fun i hh => .inl hh)
  · rw [(grown_old hi (h.op.ext.us p hp)).2]; exact h.op.base
  · intro ch hch
    obtain ⟨h1, h2, h3, h4⟩ := h.op.kids ch hch
    have hu : Us A' (B + ch) := ⟨h1, .inr (by omega)⟩
    rw [(grown_old hi hu).1, (grown_old hi hu).2]
    exact ⟨by omega, h2, h3, h4⟩
  · intro i hu
    exact h.op.only i ((grown_us hi i).1 hu)
  · intro ch hch
    rcases h.rest ch hch with h1 | h1
    · by_cases h2 : B + ch < 2 * A'.n
      · exact .inr ((grown_fr hi _).2 (.inr ⟨h1, h2⟩))
      · exact .inl (by omega)
    · exact .inr ((grown_fr hi _).2 (.inl h1))
theorem mk_take {A A' : DA} {p B ch : Nat} {done rest : List Nat} {M : Nat} (h : Mk A A' p B done (ch :: rest) M) (hp : Us A p) (hlt : B + ch < A'.n) (hne : A'.b (B + ch) ≠ A'.c (B + ch)) (hr : ch ∉ rest) (hM : B + ch ≤ M) (hpM : p ≤ 268435456) :
    Mk A (take A' (B + ch) p) p B (done ++ [ch]) rest M := by
  have hi := h.inv
  have hf : Fr A' (B + ch) := by
    rcases h.rest ch (List.mem_cons_self ..) with h1 | h1
    · omega
    · exact h1
  have hv : (0 : Int) ≤ p := by omega
  have hup : Us A' p := h.op.ext.us p hp
  have hpq : p ≠ B + ch := by rintro e; rw [← e] at hf; exact fr_not_us hf hup
  have hpos := h.op.pos
  have hn : (take A' (B + ch) p).n = A'.n := rfl
  have hE : Ext (fun i => i = p) A' (take A' (B + ch) p) := by
    refine ⟨Nat.le_refl _, fun i hu => (take_us hi hf hne hv i).2 (.inl hu), fun i hu h0 => (take_old hi hf hu).1 h0, fun i hu _ => (take_old hi hf hu).2, fun i hu h0 => ?_⟩
    rcases (take_us hi hf hne hv i).1 hu with h1 | rfl
    · exact .inl h1
    · exact .inr ⟨p, (take_self hi hf hne).1, .inl rfl, (take_us hi hf hne hv p).2 (.inl hup)⟩
  refine ⟨take_inv hi hf hne hv (by omega) hM, ⟨h.op.ext.trans hE (fun i hh => .inl hh), ?_, hpos, ?_, ?_⟩, ?_, h.lt⟩
  · rw [(take_old hi hf hup).2]; exact h.op.base
  · intro c hc
    rcases List.mem_append.1 hc with hc | hc
    · obtain ⟨h1, h2, h3, h4⟩ := h.op.kids c hc
      have hu : Us A' (B + c) := ⟨h1, .inr (by omega)⟩
      rw [(take_old hi hf hu).1 (by omega), (take_old hi hf hu).2]
      exact ⟨h1, h2, h3, h4⟩
    · obtain rfl : c = ch := by simpa using hc
      refine ⟨hlt, (take_self hi hf hne).1, fun hu => fr_not_us hf (h.op.ext.us _ hu), (take_self hi hf hne).2⟩
  · intro i hu
    rcases (take_us hi hf hne hv i).1 hu with h1 | rfl
    · rcases h.op.only i h1 with h2 | ⟨c, hc, h2⟩
      · exact .inl h2
      · exact .inr ⟨c, List.mem_append_left _ hc, h2⟩
    · exact .inr ⟨ch, by simp, rfl⟩
  · intro c hc
    rcases h.rest c (List.mem_cons_of_mem _ hc) with h1 | h1
    · exact .inl h1
    · refine .inr ((take_fr hi hf hne hv _).2 ⟨h1, ?_⟩)
      intro e
      have : c = ch := by omega
      exact hr (this ▸ hc)

/-- The children of a node that was opened: some are done. -/
structure Kids (A1 A' : DA) (B : Nat) (ks : Ks) (done : List Nat) : Prop where
  ext : Ext (fun i => ∃ ch ∈ done, i = B + ch) A1 A'
  leaf : 0 ∈ done → ∀ id, firstE ks = some id → A'.b B = -id
  sub : ∀ ch ∈ done, 1 ≤ ch → Tr A' (fun i => ¬ Us A1 i ∧ i ≠ 0) (B + ch) (tails ch ks)
theorem kids_start (A1 : DA) (B : Nat) (ks : Ks) : Kids A1 A1 B ks [] := ⟨Ext.refl _ _, by simp, by simp⟩
theorem kids_leaf {A1 A' : DA} {B : Nat} {ks : Ks} {done : List Nat} {id : Int} (h : Kids A1 A' B ks done) (hB : 1 ≤ B) (hu : Us A1 B) (hid : firstE ks = some id) (hd : ∀ ch ∈ done, Us A1 (B + ch)) (hn : 0 ∉ done) : Kids A1 (setB A' B (-id)) B ks (done ++ [0]) := by
  have hE : Ext (fun j => j = B) A' (setB A' B (-id)) := setB_ext
  refine ⟨?_, ?_, ?_⟩
  · refine (h.ext.mono (Y := fun i => ∃ ch ∈ done ++ [0], i = B + ch) ?_).trans hE ?_
    · rintro i ⟨ch, h1, h2⟩; exact ⟨ch, List.mem_append_left _ h1, h2⟩
    · rintro i rfl; exact .inl ⟨0, by simp, rfl⟩
  · intro _ id' hid'
    rw [hid] at hid'
    cases hid'
    exact upd_same _ _ _
  · intro ch hch h1
    rcases List.mem_append.1 hch with hch | hch
    · refine (h.sub ch hch h1).stay hE (h.ext.us _ (hd ch hch)) (by omega) ?_
      rintro i ⟨h2, h3⟩
      exact ⟨by rintro rfl; exact h2 hu, h3⟩
    · simp at hch; omega
theorem kids_sub {A1 A' A2 : DA} {B ch : Nat} {ks : Ks} {done : List Nat} (h : Kids A1 A' B ks done) (hB : 1 ≤ B) (hu : Us A1 (B + ch)) (h1 : 1 ≤ ch) (hd : ∀ ch ∈ done, Us A1 (B + ch)) (hn : ch ∉ done)
    (hE : Ext (fun i => i = B + ch) A' A2) (hT : Tr A2 (fun i => ¬ Us A' i ∧ i ≠ 0) (B + ch) (tails ch ks)) : Kids A1 A2 B ks (done ++ [ch]) := by
  refine ⟨?_, ?_, ?_⟩
  · refine (h.ext.mono (Y := fun i => ∃ c ∈ done ++ [ch], i = B + c) ?_).trans hE ?_
    · rintro i ⟨c, h1, h2⟩; exact ⟨c, List.mem_append_left _ h1, h2⟩
    · rintro i rfl; exact .inl ⟨ch, by simp, rfl⟩
  · intro h0 id hid
    rcases List.mem_append.1 h0 with h0 | h0
    · rw [hE.b B (h.ext.us _ (hd 0 h0)) (by omega)]
      exact h.leaf h0 id hid
    · simp at h0; omega
  · intro c hc hc1
    rcases List.mem_append.1 hc with hc | hc
    · have hne : c ≠ ch := fun e => hn (e ▸ hc)
      refine (h.sub c hc hc1).stay hE (h.ext.us _ (hd c hc)) (by omega) ?_
      rintro i ⟨h2, h3⟩
      exact ⟨by rintro rfl; exact h2 hu, h3⟩
    · obtain rfl : c = ch := by simpa using hc
      exact hT.new (fun i ⟨h2, h3⟩ => ⟨fun h4 => h2 (h.ext.us i h4), h3⟩)
/-- Each used cell hangs below a used one. -/
def Par (A : DA) : Prop := ∀ i, Us A i → i ≠ 0 → ∃ q : Nat, A.c i = q ∧ Us A q
theorem Par.ext {X : Nat → Prop} {A A' : DA} (h : Par A) (hE : Ext X A A') : Par A' := by
  intro i hi h0
  rcases hE.fresh i hi h0 with hu | ⟨q, hq, _, hu⟩
  · obtain ⟨q, hq, hu'⟩ := h i hu h0
    exact ⟨q, (hE.c i hu h0).trans hq, hE.us q hu'⟩
  · exact ⟨q, hq, hu⟩
/-- A used node without children. -/
def Bare (A : DA) (p : Nat) : Prop := Us A p ∧ ∀ i, Us A i → i ≠ 0 → A.c i ≠ p
theorem kids_bare {A A1 A' : DA} {p B ch : Nat} {ks : Ks} {chars done : List Nat} (ho : Opened A A1 p B chars) (hk : Kids A1 A' B ks done) (hp : Us A p) (hpar : Par A) (hch : ch ∈ chars) (hd : ∀ c ∈ done, c ∈ chars) (hn : ch ∉ done) : Bare A' (B + ch) := by
  have u1 : ∀ ch ∈ chars, Us A1 (B + ch) := fun ch hch => ⟨(ho.kids ch hch).1, .inr (by have := (ho.kids ch hch).2.1; omega)⟩
  have hu := u1 ch hch
  have hnu := (ho.kids ch hch).2.2.1
  refine ⟨hk.ext.us _ hu, fun i hi h0 he => ?_⟩
  rcases hk.ext.fresh i hi h0 with h1 | ⟨q, hq, hor, _⟩
  · have hc := (hk.ext.c i h1 h0).symm.trans he
    rcases ho.only i h1 with h2 | ⟨c, hc2, h2⟩
    · obtain ⟨q, hq, huq⟩ := hpar i h2 h0
      have := (ho.ext.c i h2 h0).symm.trans hc
      have hqe : q = B + ch := by omega
      exact hnu (hqe ▸ huq)
    · have := (ho.kids c hc2).2.1
      rw [← h2] at this
      have hpe : p = B + ch := by omega
      exact hnu (hpe ▸ hp)
  · have hqe : q = B + ch := by omega
    rw [hqe] at hor
    rcases hor with ⟨c, hc, h⟩ | h
    · have : c = ch := by omega
      exact hn (this ▸ hc)
    · exact h hu
/-- All are done. -/
theorem kids_all {A A1 A' : DA} {p B : Nat} {ks : Ks} {chars : List Nat} (ho : Opened A A1 p B chars) (hk : Kids A1 A' B ks chars) (hb : Bare A p)
    (hc0 : 0 ∈ chars ↔ firstE ks ≠ none) (hc1 : ∀ ch, 1 ≤ ch → (ch ∈ chars ↔ tails ch ks ≠ [])) :
    Ext (fun i => i = p) A A' ∧ Tr A' (fun i => ¬ Us A i ∧ i ≠ 0) p ks := by
  have hpos := ho.pos
  have hp := hb.1
  have u1 : ∀ ch ∈ chars, Us A1 (B + ch) := fun ch hch => ⟨(ho.kids ch hch).1, .inr (by have := (ho.kids ch hch).2.1; omega)⟩
  have hp1 : Us A1 p := ho.ext.us p hp
  have hpk : ∀ ch ∈ chars, p ≠ B + ch := fun ch hch e => (ho.kids ch hch).2.2.1 (e ▸ hp)
  have cell : ∀ ch ∈ chars, B + ch < A'.n ∧ A'.c (B + ch) = p ∧ (¬ Us A (B + ch) ∧ B + ch ≠ 0) := fun ch hch =>
    ⟨Nat.lt_of_lt_of_le (ho.kids ch hch).1 hk.ext.n, (hk.ext.c _ (u1 ch hch) (by omega)).trans (ho.kids ch hch).2.1, (ho.kids ch hch).2.2.1, by omega⟩
  have no : ∀ i, 1 ≤ i → (∀ ch ∈ chars, i ≠ B + ch) → ¬ (i < A'.n ∧ A'.c i = p) := by
    rintro i h0 hn ⟨h1, h2⟩
    have hu' : Us A' i := ⟨h1, .inr (by omega)⟩
    rcases hk.ext.fresh i hu' (by omega) with hu | ⟨q, hq, hor, _⟩
    · have hc1' := (hk.ext.c i hu (by omega)).symm.trans h2
      rcases ho.only i hu with h3 | ⟨ch, hch, h3⟩
      · exact hb.2 i h3 (by omega) ((ho.ext.c i h3 (by omega)).symm.trans hc1')
      · exact hn ch hch h3
    · have : q = p := by omega
      subst this
      rcases hor with ⟨ch, hch, h⟩ | h
      · exact hpk ch hch h
      · exact h hp1
  refine ⟨ho.ext.trans hk.ext ?_, ?_⟩
  · rintro i ⟨ch, hch, rfl⟩
    exact .inr (ho.kids ch hch).2.2.1
  · refine .node p ks B ((hk.ext.b p hp1 (by rintro ⟨ch, hch, e⟩; exact hpk ch hch e)).trans ho.base) hpos ?_ ?_ ?_ ?_ ?_
    · intro id hid
      have h0 : 0 ∈ chars := hc0.2 (by rw [hid]; simp)
      obtain ⟨g1, g2, g3⟩ := cell 0 h0
      exact ⟨g1, g2, g3, hk.leaf h0 id hid⟩
    · intro ch h1 h2
      exact cell ch ((hc1 ch h1).2 h2)
    · intro ch h1 h2
      refine (hk.sub ch ((hc1 ch h1).2 h2) h1).new ?_
      rintro i ⟨h3, h4⟩
      exact ⟨fun h5 => h3 (ho.ext.us i h5), h4⟩
    · intro hno
      refine no B hpos (fun ch hch e => ?_)
      have : ch = 0 := by omega
      subst this
      exact hc0.1 hch hno
    · intro ch h1 h2
      refine no (B + ch) (by omega) (fun c hc e => ?_)
      have : c = ch := by omega
      subst this
      exact (hc1 c h1).1 hc h2
end Go.Proofs.YteoljiclmhmbnaaDoor.Da

/-
  A double array in memory; the walk of init.
-/
set_option linter.unusedVariables false
set_option linter.unusedSimpArgs false
namespace Go.Proofs.YteoljiclmhmbnaaDoor.Da
open Go.RowKit Go.Proofs.YteoljiclmhmbnaaDoor.K Go.Proofs.YteoljiclmhmbnaaDoorW.PrintWords

abbrev tDA : Nat := 88
abbrev tEl : Nat := 218
/-- The cells of an array. -/
def cellsOf (A : DA) : Array Value := Array.ofFn (n := 2 * A.n) fun i => if i.1 % 2 = 0 then .int .i32 (A.b (i.1 / 2)) else .int .i32 (A.c (i.1 / 2))
theorem cells_size (A : DA) : (cellsOf A).size = 2 * A.n := by simp [cellsOf]
theorem cells_b (A : DA) {i : Nat} (h : i < A.n) : (cellsOf A)[i * 2]? = some (.int .i32 (A.b i)) := by
  unfold cellsOf
  rw [Array.getElem?_ofFn, dif_pos (by omega)]
  simp [show i * 2 % 2 = 0 by omega, show i * 2 / 2 = i by omega]
theorem cells_c (A : DA) {i : Nat} (h : i < A.n) : (cellsOf A)[i * 2 + 1]? = some (.int .i32 (A.c i)) := by
  unfold cellsOf
  rw [Array.getElem?_ofFn, dif_pos (by omega)]
  simp [show (i * 2 + 1) % 2 = 1 by omega, show (i * 2 + 1) / 2 = i by omega]
theorem cells_set_b (A : DA) {i : Nat} (h : i < A.n) (v : Int) : (cellsOf A).setIfInBounds (i * 2) (.int .i32 v) = cellsOf { A with b := upd A.b i v } := by
  apply Array.ext
  · simp [cells_size]
  · intro j h1 h2
    have h3 : j < 2 * A.n := by simpa [cells_size] using h1
    rw [Array.getElem_setIfInBounds (by simpa using h1)]
    simp only [cellsOf, Array.getElem_ofFn, upd]
    by_cases e : i * 2 = j
    · subst e
      simp [show i * 2 % 2 = 0 by omega, show i * 2 / 2 = i by omega]
    · rw [if_neg e]
      by_cases e2 : j % 2 = 0
      · rw [if_pos e2, if_pos e2, if_neg (by omega)]
      · rw [if_neg e2, if_neg e2]
theorem cells_set_c (A : DA) {i : Nat} (h : i < A.n) (v : Int) : (cellsOf A).setIfInBounds (i * 2 + 1) (.int .i32 v) = cellsOf { A with c := upd A.c i v } := by
  apply Array.ext
  · simp [cells_size]
  · intro j h1 h2
    have h3 : j < 2 * A.n := by simpa [cells_size] using h1
    rw [Array.getElem_setIfInBounds (by simpa using h1)]
    simp only [cellsOf, Array.getElem_ofFn, upd]
    by_cases e : i * 2 + 1 = j
    · subst e
      simp [show (i * 2 + 1) % 2 = 1 by omega, show (i * 2 + 1) / 2 = i by omega]
    · rw [if_neg e]
      by_cases e2 : j % 2 = 0
      · rw [if_pos e2, if_pos e2]
      · rw [if_neg e2, if_neg e2, if_neg (by omega)]
theorem cells_ext {A B : DA} (hn : A.n = B.n) (hb : ∀ i, i < A.n → A.b i = B.b i) (hc : ∀ i, i < A.n → A.c i = B.c i) : cellsOf A = cellsOf B := by
  apply Array.ext
  · simp [cells_size, hn]
  · intro j h1 h2
    have h3 : j < 2 * A.n := by simpa [cells_size] using h1
    simp only [cellsOf, Array.getElem_ofFn]
    rw [hb _ (by omega), hc _ (by omega)]

/-- A double array in a block of its own, behind a variable. -/
structure Arr (dp g : Nat) (A : DA) (w : World) : Prop where
  var : w.heap[dp]? = some (.cells #[.slice (some ⟨g, 0, none⟩) A.n A.n] tDA (0, 0))
  arr : w.heap[g]? = some (.cells (cellsOf A) tEl (0, 0))
theorem Arr.ne {dp g : Nat} {A : DA} {w : World} (h : Arr dp g A w) : dp ≠ g := typ_ne h.var h.arr (by decide)
/-- What the variable and its array hold may turn, and new blocks come. -/
structure Kp (dp g : Nat) (w w' : World) : Prop where
  os : w'.os = w.os
  tape : w'.tape = w.tape
  output : w'.output = w.output
  size : w.heap.size ≤ w'.heap.size
  block : ∀ k, k < w.heap.size → k ≠ dp → k ≠ g → w'.heap[k]? = w.heap[k]?
theorem Kp.refl (dp g : Nat) (w : World) : Kp dp g w w := ⟨rfl, rfl, rfl, Nat.le_refl _, fun _ _ _ _ => rfl⟩
theorem Kp.trans {dp g g' : Nat} {a b c : World} (h : Kp dp g a b) (k : Kp dp g' b c) (hg : g' = g ∨ a.heap.size ≤ g') : Kp dp g a c :=
  ⟨k.os.trans h.os, k.tape.trans h.tape, k.output.trans h.output, Nat.le_trans h.size k.size, fun i h1 h2 h3 => (k.block i (Nat.lt_of_lt_of_le h1 h.size) h2 (by omega)).trans (h.block i h1 h2 h3)⟩
theorem Kp.drew {dp g : Nat} {a w : World} (h : Kp dp g a w) : Kp dp g a w.drew := ⟨h.os, h.tape, h.output, h.size, h.block⟩
theorem Kp.alloc {dp g : Nat} {a w : World} (h : Kp dp g a w) (o : Obj) : Kp dp g a (w.alloc o) :=
  ⟨h.os, h.tape, h.output, by have := h.size; simp; omega, fun k h1 h2 h3 => (Below.heap_alloc w o k (Nat.lt_of_lt_of_le h1 h.size)).trans (h.block k h1 h2 h3)⟩
theorem Kp.set {dp g : Nat} {a w : World} (h : Kp dp g a w) {p : Addr} (hp : p.block = dp ∨ p.block = g ∨ a.heap.size ≤ p.block) (u : Value) : Kp dp g a (w.setCell p u) :=
  ⟨h.os, h.tape, h.output, by have := h.size; simp [World.setCell]; omega, fun k h1 h2 h3 => (Below.heap_setCell w p u k (by omega)).trans (h.block k h1 h2 h3)⟩
theorem Kp.below {dp g B : Nat} {w w' : World} (h : Kp dp g w w') (h1 : B ≤ dp) (h2 : B ≤ g) (hB : B ≤ w.heap.size) : Below B w w' :=
  ⟨h.os, h.tape, h.output, h.size, fun k hk => h.block k (by omega) (by omega) (by omega)⟩
theorem Kp.of_below {dp g : Nat} {w w' : World} (h : Below w.heap.size w w') : Kp dp g w w' := ⟨h.os, h.tape, h.output, h.size, fun k hk _ _ => h.block k hk⟩

section
variable {dp g : Nat} {A : DA} {w : World}
theorem Arr.cv (h : Arr dp g A w) : w.cell? ⟨dp, 0, none⟩ = some (.slice (some ⟨g, 0, none⟩) A.n A.n) := by rw [cell_of_heap h.var]; rfl
theorem Arr.fv (h : Arr dp g A w) : w.frozen? ⟨dp, 0, none⟩ = false := frozen_of_heap h.var 0
theorem Arr.cb (h : Arr dp g A w) {i : Nat} (hi : i < A.n) : w.cell? ⟨g, i * 2, none⟩ = some (.int .i32 (A.b i)) := by rw [cell_of_heap h.arr, cells_b A hi]
theorem Arr.cc (h : Arr dp g A w) {i : Nat} (hi : i < A.n) : w.cell? ⟨g, i * 2 + 1, none⟩ = some (.int .i32 (A.c i)) := by rw [cell_of_heap h.arr, cells_c A hi]
theorem Arr.f (h : Arr dp g A w) (j : Nat) : w.frozen? ⟨g, j, none⟩ = false := frozen_of_heap h.arr j
theorem Arr.drew (h : Arr dp g A w) : Arr dp g A w.drew := ⟨h.var, h.arr⟩
theorem Arr.set_b (h : Arr dp g A w) {i : Nat} (hi : i < A.n) (v : Int) : Arr dp g { A with b := upd A.b i v } (w.setCell ⟨g, i * 2, none⟩ (.int .i32 v)) :=
  ⟨by rw [heap_set_ne h.ne]; exact h.var, by rw [heap_set h.arr, cells_set_b A hi]⟩
theorem Arr.set_c (h : Arr dp g A w) {i : Nat} (hi : i < A.n) (v : Int) : Arr dp g { A with c := upd A.c i v } (w.setCell ⟨g, i * 2 + 1, none⟩ (.int .i32 v)) :=
  ⟨by rw [heap_set_ne h.ne]; exact h.var, by rw [heap_set h.arr, cells_set_c A hi]⟩
theorem Arr.keep (h : Arr dp g A w) {w' : World} (h1 : w'.heap[dp]? = w.heap[dp]?) (h2 : w'.heap[g]? = w.heap[g]?) : Arr dp g A w' := ⟨h1.trans h.var, h2.trans h.arr⟩
theorem Arr.alloc (h : Arr dp g A w) (o : Obj) : Arr dp g A (w.alloc o) := ⟨heap_old h.var o, heap_old h.arr o⟩
end

/-- An array of zeros. -/
def zeroA (n : Nat) : DA := ⟨n, fun _ => 0, fun _ => 0⟩
theorem made_zero (n : Nat) : madeCells #[.int .i32 0, .int .i32 0] (n * 2) = cellsOf (zeroA n) := by
  apply Array.ext
  · simp [cells_size, size_madeCells, zeroA]; omega
  · intro j h1 h2
    simp only [madeCells, cellsOf, Array.getElem_ofFn, Array.getElem_map, Array.getElem_range, zeroA]
    have : j % 2 = 0 ∨ j % 2 = 1 := by omega
    rcases this with h | h <;> simp [h]
/-- make of a double array. -/
theorem make_da (n : Nat) (hn : n ≤ 4294967296) (W : World) : (Instr.makeSlice tDA (.int .i64 n) (.int .i64 n)).run Tryd.prog W = .ok (.slice (some ⟨W.heap.size, 0, none⟩) n n) (W.alloc (.cells (cellsOf (zeroA n)) tEl)) := by
  obtain ⟨i, hi, hii⟩ := Option.map_eq_some_iff.1 (show (Tryd.prog.info? tEl).map (fun i => (i.zero, i.size, i.bytes)) = some (some (.agg #[.int .i32 0, .int .i32 0]), 2, 8) by kernel_rfl)
  simp only [Prod.mk.injEq] at hii
  obtain ⟨hz, hsz, hby⟩ := hii
  have := run_make (P := Tryd.prog) W tDA tEl i _ Tryd.underlying88 hi hz .i64 .i64 n n (by omega) (by omega) (by rw [hby]; omega) (by omega)
  rw [this, hsz, ← made_zero]
  rfl
end Go.Proofs.YteoljiclmhmbnaaDoor.Da

/-
  The walk of init: a fresh double array.
-/
set_option linter.unusedVariables false
set_option linter.unusedSimpArgs false
namespace Go.Proofs.YteoljiclmhmbnaaDoor.Da
open Go.RowKit Go.Proofs.YteoljiclmhmbnaaDoor.K Go.Proofs.YteoljiclmhmbnaaDoorW.PrintWords

/-- init's array while its cells from 1 to k are laid. -/
def halfA (n k : Nat) : DA :=
  { n := n
    b := fun i => if i = 0 then 1 else if i < k then -((i : Int) - 1) else 0
    c := fun i => if i = 0 then -1 else if i < k then -((i : Int) + 1) else 0 }
set_option maxHeartbeats 1000000 in
set_option maxRecDepth 100000 in
theorem init_any (dp : Nat) (v0 : Value) (w : World) (hd : w.heap[dp]? = some (.cells #[v0] tDA (0, 0))) :
    Calls Tryd.prog 109 #[.pointer (some ⟨dp, 0, none⟩)] w fun e w' => e = .returned (.tuple #[]) ∧ ∃ g, Arr dp g (fresh 51200) w' ∧ w.heap.size ≤ g ∧ Kp dp g w w' := by
  have hmk : ∀ W : World, (Instr.makeSlice tDA (.int .i64 51200) (.int .i64 51200)).run Tryd.prog W = .ok (.slice (some ⟨W.heap.size, 0, none⟩) 51200 51200) (W.alloc (.cells (cellsOf (zeroA 51200)) tEl)) := fun W => by
    exact make_da 51200 (by decide) W
  have hc0 : (w.alloc (.cells (cellsOf (zeroA 51200)) tEl)).cell? ⟨dp, 0, none⟩ = some v0 := by rw [cell_of_heap (heap_old hd _)]; rfl
  have hf0 : (w.alloc (.cells (cellsOf (zeroA 51200)) tEl)).frozen? ⟨dp, 0, none⟩ = false := frozen_of_heap (heap_old hd _) 0
  have HD := Lib.hid hd
  clear hd
  go_enter Tryd.func109, Tryd.ntmps109
  go_upto_region 1 with fail
  generalize hw1 : World.setCell _ _ _ = w1
  obtain ⟨g, hg⟩ : ∃ g, g = w.heap.size := ⟨_, rfl⟩
  have A1 : Arr dp g (zeroA 51200) w1 := by
    subst hw1 hg
    exact ⟨heap_set (heap_old HD.out _) 0 _, by rw [heap_set_ne (by have := lt_of_heap HD.out; omega)]; exact heap_new _ _⟩
  have K1 : Hid (Kp dp g w w1) := Lib.hid (by
    subst hw1
    exact ((Kp.refl dp g w).alloc _).set (.inl rfl) _)
  rw [← hg]
  have G := Lib.hid hg
  clear hw1 hg hc0 hf0 hmk
  have hv : w1.cell? ⟨dp, 0, none⟩ = some (.slice (some ⟨g, 0, none⟩) 51200 51200) := A1.cv
  have h0 : w1.cell? ⟨g, 0, none⟩ = some (.int .i32 0) := A1.cb (i := 0) (by decide)
  have hf : w1.frozen? ⟨g, 0, none⟩ = false := A1.f 0
  go_upto_region 2 with fail
  generalize hw2 : World.setCell _ _ _ = w2
  have A2 := A1.set_b (i := 0) (by decide) 1
  have K2 : Hid (Kp dp g w w2) := Lib.hid (by
    subst hw2
    exact K1.out.set (.inr (.inl rfl)) _)
  rw [show 0 * 2 = 0 from rfl, hw2] at A2
  clear hw2 hv h0 hf A1 K1
  have hv : w2.cell? ⟨dp, 0, none⟩ = some (.slice (some ⟨g, 0, none⟩) 51200 51200) := A2.cv
  have h0 : w2.cell? ⟨g, 1, none⟩ = some (.int .i32 0) := A2.cc (i := 0) (by decide)
  have hf : w2.frozen? ⟨g, 1, none⟩ = false := A2.f 1
  go_upto_region 3 with fail
  generalize hw3 : World.setCell _ _ _ = w3
  have A3 := A2.set_c (i := 0) (by decide) (-1)
  have K3 : Hid (Kp dp g w w3) := Lib.hid (by
    subst hw3
    exact K2.out.set (.inr (.inl rfl)) _)
  rw [show 0 * 2 + 1 = 1 from rfl, hw3] at A3
  clear hw3 hv h0 hf A2 K2
  obtain ⟨N, hN⟩ : ∃ N : Nat, N = 51200 := ⟨_, rfl⟩
  have hv : w3.cell? ⟨dp, 0, none⟩ = some (.slice (some ⟨g, 0, none⟩) N N) := by rw [hN]; exact A3.cv
  have HN := Lib.hid hN
  have hN1 : 10 ≤ N := by omega
  have hN2 : N ≤ 100000 := by omega
  clear hN
  go_wp2
  go_loopw [3] (fun i wr => ∃ k : Nat, 1 ≤ k ∧ k ≤ N ∧ i = .int .i64 k ∧ Hid (Arr dp g (halfA N k) wr) ∧ Hid (Kp dp g w wr)) (fun i _ => N - (intOf i).toNat)
  case atStart =>
    refine ⟨1, by omega, by omega, rfl, Lib.hid ?_, K3⟩
    rw [HN.out]
    refine ⟨A3.var, A3.arr.trans (congrArg (fun z => some (Obj.cells z tEl (0, 0))) (cells_ext rfl ?_ ?_))⟩
    · intro i hi
      simp only [upd, zeroA, halfA]
      by_cases h : i = 0
      · simp [h]
      · rw [if_neg h, if_neg h, if_neg (by omega)]
    · intro i hi
      simp only [upd, zeroA, halfA]
      by_cases h : i = 0
      · simp [h]
      · rw [if_neg h, if_neg h, if_neg (by omega)]
  case round =>
    obtain ⟨k, hk1, hk, rfl, HA, HK⟩ := hrel
    have hv : wr.cell? ⟨dp, 0, none⟩ = some (.slice (some ⟨g, 0, none⟩) N N) := HA.out.cv
    clear A3
    by_cases hlt : k < N
    · have h0 : wr.cell? ⟨g, k * 2, none⟩ = some (.int .i32 0) := by rw [HA.out.cb (i := k) hlt]; simp [halfA]; omega
      have hf := HA.out.f (k * 2)
      go_upto_region 8 with fail
      generalize hw1 : World.setCell _ _ _ = w1
      have A1 := HA.out.set_b (i := k) hlt (-((k : Int) - 1))
      rw [hw1] at A1
      have HK1 : Hid (Kp dp g w w1) := Lib.hid (by
        subst hw1
        exact HK.out.set (.inr (.inl rfl)) _)
      clear hw1 hv h0 hf HA HK
      have hv : w1.cell? ⟨dp, 0, none⟩ = some (.slice (some ⟨g, 0, none⟩) N N) := A1.cv
      have h0 : w1.cell? ⟨g, k * 2 + 1, none⟩ = some (.int .i32 0) := by rw [A1.cc (i := k) hlt]; simp [halfA]; omega
      have hf := A1.f (k * 2 + 1)
      have A2 := Lib.hid (A1.set_c (i := k) hlt (-((k : Int) + 1)))
      clear A1
      go_wp2
      refine ⟨⟨k + 1, by omega, by omega, by go_num, Lib.hid ?_, Lib.hid (HK1.out.set (.inr (.inl rfl)) _)⟩, by simp [intOf]; omega⟩
      refine ⟨A2.out.var, A2.out.arr.trans (congrArg (fun z => some (Obj.cells z tEl (0, 0))) (cells_ext rfl ?_ ?_))⟩
      · intro i hi
        simp only [upd, halfA]
        by_cases h : i = k
        · subst h
          rw [if_pos rfl, if_neg (by omega), if_pos (by omega)]
        · rw [if_neg h]
          by_cases h2 : i < k
          · simp [h2, show i < k + 1 by omega]
          · simp [h2, show ¬ i < k + 1 by omega]
      · intro i hi
        simp only [upd, halfA]
        by_cases h : i = k
        · subst h
          rw [if_pos rfl, if_neg (by omega), if_pos (by omega)]
        · rw [if_neg h]
          by_cases h2 : i < k
          · simp [h2, show i < k + 1 by omega]
          · simp [h2, show ¬ i < k + 1 by omega]
    · obtain rfl : k = N := by omega
      obtain ⟨m, rfl⟩ : ∃ m, k = m + 1 := ⟨k - 1, by omega⟩
      have h0 : wr.cell? ⟨g, 2, none⟩ = some (.int .i32 ((halfA (m + 1) (m + 1)).b 1)) := HA.out.cb (i := 1) (by show 1 < m + 1; omega)
      have hf := HA.out.f 2
      go_upto_region 10 with fail
      generalize hw1 : World.setCell _ _ _ = w1
      have A1 := HA.out.set_b (i := 1) (by show 1 < m + 1; omega) (-(m : Int))
      rw [show 1 * 2 = 2 from rfl, hw1] at A1
      have HK1 : Hid (Kp dp g w w1) := Lib.hid (by
        subst hw1
        exact HK.out.set (.inr (.inl rfl)) _)
      clear hw1 hv h0 hf HA HK
      have hv : w1.cell? ⟨dp, 0, none⟩ = some (.slice (some ⟨g, 0, none⟩) (m + 1) (m + 1)) := A1.cv
      have h0 : w1.cell? ⟨g, m * 2 + 1, none⟩ = some (.int .i32 ((halfA (m + 1) (m + 1)).c m)) := A1.cc (i := m) (by show m < m + 1; omega)
      have hf := A1.f (m * 2 + 1)
      have A2 := Lib.hid (A1.set_c (i := m) (by show m < m + 1; omega) (-1))
      clear A1
      go_wp2
      go_end0
      refine ⟨rfl, g, ?_, by rw [G.out]; exact Nat.le_refl _, HK1.out.set (.inr (.inl rfl)) _⟩
      have hN := HN.out
      obtain rfl : m = 51199 := by omega
      refine ⟨A2.out.var, A2.out.arr.trans (congrArg (fun z => some (Obj.cells z tEl (0, 0))) (cells_ext rfl ?_ ?_))⟩
      · intro i hi
        have hi' : i < 51200 := hi
        simp only [upd, halfA, fresh]
        by_cases h : i = 1
        · subst h; rfl
        · rw [if_neg h, if_neg h]
          by_cases h2 : i = 0
          · rw [if_pos h2, if_pos h2]
          · rw [if_neg h2, if_neg h2, if_pos (by omega)]
      · intro i hi
        have hi' : i < 51200 := hi
        simp only [upd, halfA, fresh]
        by_cases h : i = 51199
        · subst h; rfl
        · rw [if_neg h]
          by_cases h2 : i = 0
          · rw [if_pos h2, if_pos h2]
          · rw [if_neg h2, if_neg h2, if_pos (by omega), if_neg (by omega)]
end Go.Proofs.YteoljiclmhmbnaaDoor.Da

/-
  The walk of expand; copy of elements of two cells.
-/
set_option linter.unusedVariables false
set_option linter.unusedSimpArgs false
namespace Go.Proofs.YteoljiclmhmbnaaDoor.Da
open Go.RowKit Go.Proofs.YteoljiclmhmbnaaDoor.K Go.Proofs.YteoljiclmhmbnaaDoorW.PrintWords

theorem run_copy_pairs (P : Program) (w : World) (dT sT ty elem : TypeId) (g dLen dCap : Nat) (a : Addr) (sLen sCap : Nat) (cur : Array Value) (t : TypeId) (cs : List Value) (n : Nat)
    (hu : P.underlying dT = some (.slice elem)) (hs : (P.info? elem).map (·.size) = some 2)
    (hg : w.heap[g]? = some (.cells cur t (0, 0))) (hn : n = Nat.min sLen dLen) (hcs : cs.length = n * 2)
    (hsrc : ∀ j v, cs[j]? = some v → w.cell? (a.add j) = some v) (hfit : cs.length ≤ cur.size) (h1 : ∀ v ∈ cs, v.oneCell' = true) :
    (Builtin.copy_ #[dT, sT] ty #[.slice (some ⟨g, 0, none⟩) dLen dCap, .slice (some a) sLen sCap]).run P w =
      .ok (goInt n) (w.setRow g (cs ++ cur.toList.drop cs.length).toArray) := by
  have hl := run_loadCells_list (P := P) w a cs hsrc
  have hst := run_storeCells_at P g 0 t cs 0 cur w hg (by simpa using hfit) h1
  cases hq : P.info? elem with
  | none => simp [hq] at hs
  | some i =>
    have hi : i.size = 2 := by simpa [hq] using hs
    rw [hcs] at hl
    simp [Builtin.copy_, run_underlying hu, Builtin.lenOf, Builtin.firstCells, sizeOf, typeInfo, hq, hi, ← hn, hl, hst]

/-- Block g alone may turn. -/
structure Only (g : Nat) (w w' : World) : Prop where
  os : w'.os = w.os
  tape : w'.tape = w.tape
  output : w'.output = w.output
  size : w'.heap.size = w.heap.size
  block : ∀ k, k ≠ g → w'.heap[k]? = w.heap[k]?
theorem Kp.only {dp g h : Nat} {a b c : World} (k : Kp dp g a b) (o : Only h b c) (hh : h = g ∨ h = dp ∨ a.heap.size ≤ h) : Kp dp g a c :=
  ⟨o.os.trans k.os, o.tape.trans k.tape, o.output.trans k.output, by rw [o.size]; exact k.size, fun i h1 h2 h3 => (o.block i (by omega)).trans (k.block i h1 h2 h3)⟩
/-- The first n cells of A, then zeros. -/
def padA (A : DA) (n N : Nat) : DA := ⟨N, fun i => if i < n then A.b i else 0, fun i => if i < n then A.c i else 0⟩
theorem pad_cells (A : DA) (n N : Nat) (h1 : n ≤ A.n) (h2 : n ≤ N) : ((cellsOf A).toList.take (n * 2) ++ (cellsOf (zeroA N)).toList.drop (n * 2)).toArray = cellsOf (padA A n N) := by
  apply Array.ext
  · simp [cells_size, padA, zeroA]; omega
  · intro j hj1 hj2
    have hj : j < 2 * N := by simpa [cells_size, padA] using hj2
    simp only [List.getElem_toArray]
    by_cases h : j < n * 2
    · rw [List.getElem_append_left (by simp [cells_size]; omega)]
      rw [List.getElem_take]
      have hk : j / 2 < n := by omega
      simp only [Array.getElem_toList, cellsOf, Array.getElem_ofFn, padA, hk, if_true]
    · rw [List.getElem_append_right (by simp [cells_size]; omega)]
      have hk : ¬ j / 2 < n := by omega
      simp only [List.getElem_drop, Array.getElem_toList, cellsOf, Array.getElem_ofFn, padA, zeroA, hk, if_false]
      split <;> split <;> rfl
theorem cells_one (A : DA) : ∀ v ∈ (cellsOf A).toList, v.oneCell' = true := by
  intro v hv
  obtain ⟨i, hi, rfl⟩ := List.mem_iff_getElem.1 hv
  simp only [Array.getElem_toList, cellsOf, Array.getElem_ofFn]
  split <;> rfl
/-- copy of double arrays as one step of a region that draws. -/
theorem step_copy_da {P : Program} {ops : Array Oper} {o : Oper} {a : Act} {w : World} {K : Act → World → Prop} {Q : Exit → Act → World → Prop} {E : Prop} (hgd : o.guard = none) (d s : Operand) (dT sT : TypeId)
    (ho : o.op = .call { callee := .builtin .copy, args := #[d, s], argTypes := #[dT, sT] }) (elem : TypeId) (hu : P.underlying dT = some (.slice elem)) (hsz : (P.info? elem).map (·.size) = some 2)
    (gd gs dLen dCap sLen sCap : Nat) (hd : a.eval d = .slice (some ⟨gd, 0, none⟩) dLen dCap) (hs : a.eval s = .slice (some ⟨gs, 0, none⟩) sLen sCap)
    (A : DA) (N n : Nat) (t t' : TypeId) (fr : Nat × Nat) (hn : n = Nat.min sLen dLen) (hgD : w.heap[gd]? = some (.cells (cellsOf (zeroA N)) t (0, 0))) (hgS : w.heap[gs]? = some (.cells (cellsOf A) t' fr)) (hA : n ≤ A.n) (hN : n ≤ N)
    (h : ∀ w', Hid (w'.heap[gd]? = some (.cells (cellsOf (padA A n N)) t (0, 0))) → Hid (Only gd w w') → K (a.put o.dst (goInt n)) w') :
    if Region.wanted o (yielded ops a.tmps) = true then Oper.wp P o a w K Q else E := by
  have hw : Region.wanted o (yielded ops a.tmps) = true := by simp [Region.wanted, hgd]
  rw [if_pos hw]
  have hrun := run_copy_pairs P w dT sT o.type elem gd dLen dCap ⟨gs, 0, none⟩ sLen sCap _ t ((cellsOf A).toList.take (n * 2)) n hu hsz hgD hn (by simp [cells_size]; omega)
    (fun j v hj => by
      rw [add_plain, cell_of_heap hgS]
      rw [List.getElem?_take] at hj
      split at hj
      · simpa using hj
      · cases hj)
    (by simp [cells_size, zeroA]; omega) (fun v hv => cells_one A v (List.mem_of_mem_take hv))
  unfold Oper.wp
  simp only [execOp, ho, resolve, invoke, builtin]
  simp [hd, hs, hrun, Result.andThen]
  refine h _ ?_ ?_
  · rw [setRow_heap w gd _ _ t _ hgD]
    have e : min (n * 2) (cellsOf A).size = n * 2 := by rw [cells_size]; omega
    rw [← pad_cells A n N hA hN, e]
    exact rfl
  · exact ⟨rfl, rfl, rfl, by simp [World.setRow], fun k hk => setRow_other w gd k _ hk⟩

/-- expand's array while its new cells up to k are laid. -/
def midA (A : DA) (N k : Nat) : DA := ⟨N * 2, fun i => if i < N then A.b i else if i < k then -((i : Int) - 1) else 0, fun i => if i < N then A.c i else if i < k then -((i : Int) + 1) else 0⟩
set_option maxHeartbeats 1000000 in
set_option maxRecDepth 100000 in
theorem expand_any (dp g : Nat) (A : DA) (M : Nat) (w : World) (ha : Arr dp g A w) (hi : Inv A M) :
    Calls Tryd.prog 157 #[.pointer (some ⟨dp, 0, none⟩)] w fun e w' => e = .returned (.tuple #[]) ∧ ∃ g', Arr dp g' (grown A) w' ∧ w.heap.size ≤ g' ∧ Kp dp g w w' := by
  obtain ⟨N, hN⟩ : ∃ N, N = A.n := ⟨_, rfl⟩
  have hsz := hi.size
  rw [← hN] at hsz
  have hmk : ∀ W : World, (Instr.makeSlice tDA (.int .i64 (N * 2)) (.int .i64 (N * 2))).run Tryd.prog W = .ok (.slice (some ⟨W.heap.size, 0, none⟩) (N * 2) (N * 2)) (W.alloc (.cells (cellsOf (zeroA (N * 2))) tEl)) := fun W => by
    have := make_da (N * 2) (by omega) W
    simpa using this
  have hv : w.cell? ⟨dp, 0, none⟩ = some (.slice (some ⟨g, 0, none⟩) N N) := by rw [hN]; exact ha.cv
  have HN := Lib.hid hN
  have HA := Lib.hid ha
  clear hN ha
  go_enter Tryd.func157, Tryd.ntmps157
  go_upto_region 4 with fail
  generalize hw1 : World.alloc (World.alloc w _) _ = w1
  obtain ⟨q, hq⟩ : ∃ q, q = w.heap.size := ⟨_, rfl⟩
  have hdl := lt_of_heap HA.out.var
  have hgl := lt_of_heap HA.out.arr
  have B1 : w1.heap[q]? = some (.cells #[.slice (some ⟨q + 1, 0, none⟩) (N * 2) (N * 2)] tDA (0, 0)) := by subst hw1 hq; exact heap_old (heap_new _ _) _
  have B2 : w1.heap[q + 1]? = some (.cells (cellsOf (zeroA (N * 2))) tEl (0, 0)) := by
    subst hw1 hq
    have := heap_new (w.alloc (.cells #[.slice (some ⟨w.heap.size + 1, 0, none⟩) (N * 2) (N * 2)] tDA)) (.cells (cellsOf (zeroA (N * 2))) tEl)
    rw [size_alloc] at this
    exact this
  have A1 : Arr dp g A w1 := by subst hw1; exact (HA.out.alloc _).alloc _
  have K1 : Hid (Kp dp g w w1) := Lib.hid (by subst hw1; exact ((Kp.refl dp g w).alloc _).alloc _)
  have hsz1 : w1.heap.size = q + 2 := by subst hw1 hq; simp
  have HSZ := Lib.hid hsz1
  have HQ := Lib.hid hq
  rw [← hq]
  clear hw1 hsz1 hmk hv
  have hqd : dp < q := by omega
  have hqg : g < q := by omega
  clear hq hdl hgl
  have hv : w1.cell? ⟨dp, 0, none⟩ = some (.slice (some ⟨g, 0, none⟩) N N) := by rw [HN.out]; exact A1.cv
  have hq1 : w1.cell? ⟨q, 0, none⟩ = some (.slice (some ⟨q + 1, 0, none⟩) (N * 2) (N * 2)) := by rw [cell_of_heap B1]; rfl
  have HB1 := Lib.hid B1
  have HB2 := Lib.hid B2
  have HA1 := Lib.hid A1
  clear B1 B2 A1
  go_cut [25] from 19 to 26 (fun v wx => v = .int .i64 N ∧ Hid (wx.heap[q + 1]? = some (.cells (cellsOf (padA A N (N * 2))) tEl (0, 0))) ∧ Hid (Only (q + 1) w1 wx))
  case first =>
    go_region_law (refine step_copy_da rfl (.tmp 21) (.tmp 24) tDA tDA rfl tEl Tryd.underlying88 (by kernel_rfl) (q + 1) g (N * 2) (N * 2) N N rfl rfl A (N * 2) N tEl tEl (0, 0) (Nat.min_eq_left (by omega)).symm HB2.out HA1.out.arr (by rw [HN.out]; exact Nat.le_refl _) (by omega) ?_; intro w2 HG2 HO2)
    all_goals (go_wp2_with fail; go_meet; exact ⟨rfl, HG2, Lib.hid ⟨HO2.out.os, HO2.out.tape, HO2.out.output, HO2.out.size, HO2.out.block⟩⟩)
  case rest =>
    obtain ⟨rfl, HG2, HO2⟩ := hcut
    have A1 : Arr q (q + 1) (padA A N (N * 2)) wc := ⟨(HO2.out.block q (by omega)).trans HB1.out, HG2.out⟩
    have A0 : Arr dp g A wc := HA1.out.keep (HO2.out.block dp (by omega)) (HO2.out.block g (by omega))
    have K2 := Lib.hid (K1.out.only HO2.out (.inr (.inr (by rw [← HQ.out]; omega))))
    have HAO := Lib.hid A0
    have hcs : wc.heap.size = q + 2 := HO2.out.size.trans HSZ.out
    have HCS := Lib.hid hcs
    have hv2 : wc.cell? ⟨q, 0, none⟩ = some (.slice (some ⟨q + 1, 0, none⟩) (N * 2) (N * 2)) := A1.cv
    have HAP := Lib.hid A1
    clear HG2 HO2 HB1 HB2 HA1 K1 HSZ A0 hcs A1 hv hq1
    have hN2 : (N : Int) * 2 ≤ 1073741836 := by omega
    have hbig := hi.big
    rw [← HN.out] at hbig
    go_wp2
    go_loopw [5] (fun i wr => ∃ k : Nat, N ≤ k ∧ k ≤ N * 2 ∧ i = .int .i64 k ∧ Hid (Arr q (q + 1) (midA A N k) wr) ∧ Hid (Kp q (q + 1) wc wr)) (fun i _ => N * 2 - (intOf i).toNat)
    case atStart =>
      refine ⟨N, Nat.le_refl _, by omega, rfl, Lib.hid ⟨HAP.out.var, HAP.out.arr.trans (congrArg (fun z => some (Obj.cells z tEl (0, 0))) (cells_ext rfl ?_ ?_))⟩, Lib.hid (Kp.refl _ _ _)⟩
      · intro i _
        simp only [padA, midA]
        by_cases h : i < N
        · rw [if_pos h, if_pos h]
        · rw [if_neg h, if_neg h, if_neg h]
      · intro i _
        simp only [padA, midA]
        by_cases h : i < N
        · rw [if_pos h, if_pos h]
        · rw [if_neg h, if_neg h, if_neg h]
    case round =>
      obtain ⟨k, hk1, hk, rfl, HA, HK⟩ := hrel
      clear hv2
      have hv : wr.cell? ⟨q, 0, none⟩ = some (.slice (some ⟨q + 1, 0, none⟩) (N * 2) (N * 2)) := HA.out.cv
      by_cases hlt : k < N * 2
      · have h0 : wr.cell? ⟨q + 1, k * 2, none⟩ = some (.int .i32 ((midA A N k).b k)) := HA.out.cb (i := k) hlt
        have hf := HA.out.f (k * 2)
        have hlt' : (k : Int) < (N : Int) * 2 := by omega
        go_upto_region 9 with fail
        generalize hw1 : World.setCell _ _ _ = w2
        have A2 := HA.out.set_b (i := k) hlt (-((k : Int) - 1))
        rw [hw1] at A2
        have HK2 : Hid (Kp q (q + 1) wc w2) := Lib.hid (by
          subst hw1
          exact HK.out.set (.inr (.inl rfl)) _)
        clear hw1 hv h0 hf HA HK
        have hv : w2.cell? ⟨q, 0, none⟩ = some (.slice (some ⟨q + 1, 0, none⟩) (N * 2) (N * 2)) := A2.cv
        have h0 : w2.cell? ⟨q + 1, k * 2 + 1, none⟩ = some (.int .i32 ((midA A N k).c k)) := A2.cc (i := k) hlt
        have hf := A2.f (k * 2 + 1)
        have A3 := Lib.hid (A2.set_c (i := k) hlt (-((k : Int) + 1)))
        clear A2
        go_wp2
        refine ⟨⟨k + 1, by omega, by omega, by go_num, Lib.hid ?_, Lib.hid (HK2.out.set (.inr (.inl rfl)) _)⟩, by simp [intOf]; omega⟩
        refine ⟨A3.out.var, A3.out.arr.trans (congrArg (fun z => some (Obj.cells z tEl (0, 0))) (cells_ext rfl ?_ ?_))⟩
        · intro i hi
          simp only [upd, midA]
          by_cases h : i = k
          · subst h
            rw [if_pos rfl, if_neg (by omega), if_pos (by omega)]
          · rw [if_neg h]
            by_cases h2 : i < k
            · simp [h2, show i < k + 1 by omega]
            · simp [h2, show ¬ i < k + 1 by omega]
        · intro i hi
          simp only [upd, midA]
          by_cases h : i = k
          · subst h
            rw [if_pos rfl, if_neg (by omega), if_pos (by omega)]
          · rw [if_neg h]
            by_cases h2 : i < k
            · simp [h2, show i < k + 1 by omega]
            · simp [h2, show ¬ i < k + 1 by omega]
      · obtain rfl : k = N * 2 := by omega
        obtain ⟨f, hf⟩ := hi.first
        obtain ⟨l, hl⟩ := hi.last
        obtain ⟨e0, e1, e2⟩ := ends hi hf hl
        have hfn := fr_lt hf.1
        have hln := fr_lt hl.1
        have hf0 := hf.1.1
        rw [← HN.out] at hfn hln
        have Har : Hid (Arr dp g A wr) := Lib.hid (HAO.out.keep (HK.out.block dp (by rw [HCS.out]; omega) (by omega) (by omega)) (HK.out.block g (by rw [HCS.out]; omega) (by omega) (by omega)))
        have hdv : wr.cell? ⟨dp, 0, none⟩ = some (.slice (some ⟨g, 0, none⟩) N N) := by rw [HN.out]; exact Har.out.cv
        have hd0 : wr.cell? ⟨g, 1, none⟩ = some (.int .i32 (-(f : Int))) := by rw [← e0]; exact Har.out.cc (i := 0) (by have := HN.out; omega)
        have hqf : wr.cell? ⟨q + 1, f * 2, none⟩ = some (.int .i32 (-(l : Int))) := by
          rw [HA.out.cb (i := f) (by show f < N * 2; omega)]
          simp only [midA, if_pos hfn, e1]
        obtain ⟨t, ht⟩ : ∃ t : Nat, t = N * 2 - 1 := ⟨_, rfl⟩
        have htz : (N : Int) * 2 - 1 = (t : Int) := by omega
        have htb : t < N * 2 := by omega
        have HT := Lib.hid ht
        have HE0 := Lib.hid e0
        have HE1 := Lib.hid e1
        have HE2 := Lib.hid e2
        have hf1 := HA.out.f (N * 2)
        have h0 : wr.cell? ⟨q + 1, N * 2, none⟩ = some (.int .i32 ((midA A N (N * 2)).b N)) := HA.out.cb (i := N) (by show N < N * 2; omega)
        clear ht e0 e1 e2
        go_upto_region 13 with fail
        generalize hw2 : World.setCell _ _ _ = w2
        have A2 := HA.out.set_b (i := N) (by show N < N * 2; omega) (-(l : Int))
        rw [hw2] at A2
        have K3 : Hid (Kp q (q + 1) wc w2) := Lib.hid (by subst hw2; exact HK.out.set (.inr (.inl rfl)) _)
        have D2 : Hid (Arr dp g A w2) := Lib.hid (by subst hw2; exact Har.out.keep (heap_set_ne (by omega) _ _) (heap_set_ne (by omega) _ _))
        clear hw2 hv h0 hf1 hdv hd0 hqf HA HK Har
        have hv : w2.cell? ⟨q, 0, none⟩ = some (.slice (some ⟨q + 1, 0, none⟩) (N * 2) (N * 2)) := A2.cv
        obtain ⟨x, hx⟩ : ∃ x, w2.cell? ⟨q + 1, f * 2, none⟩ = some (.int .i32 x) := ⟨_, A2.cb (i := f) (by show f < N * 2; omega)⟩
        have hf1 := A2.f (f * 2)
        have A3 := A2.set_b (i := f) (by show f < N * 2; omega) (-(t : Int))
        clear A2
        go_upto_region 14 with fail
        generalize hw3 : World.setCell _ _ _ = w3
        rw [hw3] at A3
        have K4 : Hid (Kp q (q + 1) wc w3) := Lib.hid (by subst hw3; exact K3.out.set (.inr (.inl rfl)) _)
        have D3 : Hid (Arr dp g A w3) := Lib.hid (by subst hw3; exact D2.out.keep (heap_set_ne (by omega) _ _) (heap_set_ne (by omega) _ _))
        clear hw3 hv hx hf1 K3 D2
        have hv : w3.cell? ⟨q, 0, none⟩ = some (.slice (some ⟨q + 1, 0, none⟩) (N * 2) (N * 2)) := A3.cv
        obtain ⟨x, hx⟩ : ∃ x, w3.cell? ⟨q + 1, l * 2 + 1, none⟩ = some (.int .i32 x) := ⟨_, A3.cc (i := l) (by show l < N * 2; omega)⟩
        have hf1 := A3.f (l * 2 + 1)
        have A4 := A3.set_c (i := l) (by show l < N * 2; omega) (-(N : Int))
        clear A3
        go_upto_region 15 with fail
        generalize hw4 : World.setCell _ _ _ = w4
        rw [hw4] at A4
        have K5 : Hid (Kp q (q + 1) wc w4) := Lib.hid (by subst hw4; exact K4.out.set (.inr (.inl rfl)) _)
        have D4 : Hid (Arr dp g A w4) := Lib.hid (by subst hw4; exact D3.out.keep (heap_set_ne (by omega) _ _) (heap_set_ne (by omega) _ _))
        clear hw4 hv hx hf1 K4 D3
        have hv : w4.cell? ⟨q, 0, none⟩ = some (.slice (some ⟨q + 1, 0, none⟩) (N * 2) (N * 2)) := A4.cv
        obtain ⟨x, hx⟩ : ∃ x, w4.cell? ⟨q + 1, t * 2 + 1, none⟩ = some (.int .i32 x) := ⟨_, A4.cc (i := t) htb⟩
        have hf1 := A4.f (t * 2 + 1)
        have A5 := A4.set_c (i := t) htb (-(f : Int))
        clear A4
        go_upto_region 16 with fail
        generalize hw5 : World.setCell _ _ _ = w5
        rw [hw5] at A5
        have K6 : Hid (Kp q (q + 1) wc w5) := Lib.hid (by subst hw5; exact K5.out.set (.inr (.inl rfl)) _)
        have D5 : Hid (Arr dp g A w5) := Lib.hid (by subst hw5; exact D4.out.keep (heap_set_ne (by omega) _ _) (heap_set_ne (by omega) _ _))
        clear hw5 hv hx hf1 K5 D4
        have hv : w5.cell? ⟨q, 0, none⟩ = some (.slice (some ⟨q + 1, 0, none⟩) (N * 2) (N * 2)) := A5.cv
        have hdv : w5.cell? ⟨dp, 0, none⟩ = some (.slice (some ⟨g, 0, none⟩) N N) := by rw [HN.out]; exact D5.out.cv
        have hf1 := D5.out.fv
        have HA5 := Lib.hid A5
        clear A5
        go_wp2
        go_end0
        have hqn : dp ≠ q + 1 := by omega
        refine ⟨rfl, q + 1, ⟨?_, ?_⟩, by rw [← HQ.out]; omega, ?_⟩
        · rw [heap_set D5.out.var]
          have e : (grown A).n = N * 2 := by show 2 * A.n = N * 2; rw [HN.out]; omega
          rw [e]
          rfl
        · rw [heap_set_ne (fun e => hqn e.symm), HA5.out.arr]
          refine congrArg (fun z => some (Obj.cells z tEl (0, 0))) (cells_ext (by show N * 2 = 2 * A.n; rw [HN.out]; omega) ?_ ?_)
          · intro i hlt
            have hlt' : i < N * 2 := hlt
            rw [grown_b hi hf hl]
            have hT := HT.out
            have hN' := HN.out
            rw [← hN']
            simp only [upd, midA]
            by_cases h1 : i = f
            · rw [if_pos h1, if_pos h1]; omega
            · rw [if_neg h1, if_neg h1]
              by_cases h2 : i = N
              · rw [if_pos h2, if_neg (by omega), if_pos h2]
              · rw [if_neg h2]
                by_cases h3 : i < N
                · rw [if_pos h3, if_pos h3]
                · rw [if_neg h3, if_neg h3, if_neg h2]
                  rw [if_pos hlt']
          · intro i hlt
            have hlt' : i < N * 2 := hlt
            rw [grown_c hi hf hl]
            have hT := HT.out
            have hN' := HN.out
            rw [← hN']
            simp only [upd, midA]
            by_cases h1 : i = t
            · rw [if_pos h1, if_neg (by omega), if_neg (by omega), if_pos (by omega)]
            · rw [if_neg h1]
              by_cases h2 : i = l
              · rw [if_pos h2, if_pos h2]
              · rw [if_neg h2, if_neg h2]
                by_cases h3 : i < N
                · rw [if_pos h3, if_pos h3]
                · rw [if_neg h3, if_neg h3, if_pos hlt', if_neg (by omega)]
        · have hq := HQ.out
          have hcs := HCS.out
          exact ⟨K6.out.os.trans K2.out.os, K6.out.tape.trans K2.out.tape, K6.out.output.trans K2.out.output, by rw [size_set]; exact Nat.le_trans K2.out.size K6.out.size,
            fun k h1 h2 h3 => ((heap_set_ne h2 _ _).trans (K6.out.block k (by omega) (by omega) (by omega))).trans (K2.out.block k h1 h2 h3)⟩
end Go.Proofs.YteoljiclmhmbnaaDoor.Da

/-
  The walks of setBase and setCheck.
-/
set_option linter.unusedVariables false
set_option linter.unusedSimpArgs false
namespace Go.Proofs.YteoljiclmhmbnaaDoor.Da
open Go.RowKit Go.Proofs.YteoljiclmhmbnaaDoor.K Go.Proofs.YteoljiclmhmbnaaDoorW.PrintWords

/-- Behind growing no free cell has the same one ahead and behind. -/
theorem grown_ne {A : DA} {M q : Nat} (h : Inv A M) (hq : Fr A q) : (grown A).b q ≠ (grown A).c q := by
  obtain ⟨f, hf⟩ := h.first
  obtain ⟨l, hl⟩ := h.last
  obtain ⟨r, hr⟩ := h.prev hq
  obtain ⟨s, hs⟩ := h.next hq
  have ep := (h.ring _ _ hr).2
  have es := (h.ring _ _ hs).1
  have hqn := fr_lt hq
  have hrn := fr_lt hr.1
  have hsn := fr_lt hs.2.1
  have hfq := hf.2 q hq
  have hql := hl.2 q hq
  have hb := h.big
  rw [grown_b h hf hl, grown_c h hf hl]
  by_cases h1 : q = f
  · rw [if_pos h1]
    by_cases h2 : q = l
    · rw [if_pos h2]; omega
    · rw [if_neg h2, if_pos hqn, es]; omega
  · rw [if_neg h1, if_pos hqn, ep]
    by_cases h2 : q = l
    · rw [if_pos h2]; omega
    · rw [if_neg h2, if_pos hqn, es]
      have h3 : r < q := by
        rcases hr.2.2 with ⟨a, _⟩ | ⟨_, b⟩
        · exact a
        · have := b f hf.1; omega
      have h4 : q < s := by
        rcases hs.2.2 with ⟨a, _⟩ | ⟨b, _⟩
        · exact a
        · have := b l hl.1; omega
      omega
/-- The array in which a cell is taken: grown, if few are free. -/
def room (A : DA) (q : Nat) : DA := if A.b q = A.c q then grown A else A
theorem room_inv {A : DA} {M q : Nat} (h : Inv A M) (hq : Fr A q) : Inv (room A q) M ∧ Fr (room A q) q ∧ (room A q).b q ≠ (room A q).c q := by
  unfold room
  split
  · rename_i he
    exact ⟨grown_inv h (few_free h hq he), (grown_fr h q).2 (.inl hq), grown_ne h hq⟩
  · rename_i he
    exact ⟨h, hq, he⟩

set_option maxHeartbeats 1000000 in
set_option maxRecDepth 100000 in
theorem setCheck_any (dp g : Nat) (A : DA) (M q v : Nat) (w : World) (ha : Arr dp g A w) (hi : Inv A M) (hq : Fr A q) (hv31 : v ≤ 536870918) :
    Calls Tryd.prog 159 #[.pointer (some ⟨dp, 0, none⟩), .int .i64 q, .int .i64 v] w fun e w' => e = .returned (.tuple #[]) ∧ ∃ g', Arr dp g' (take (room A q) q v) w' ∧ (g' = g ∨ w.heap.size ≤ g') ∧ Kp dp g w w' := by
  obtain ⟨A1, hA1⟩ : ∃ A1, A1 = room A q := ⟨_, rfl⟩
  obtain ⟨hi1, hq1, hne1⟩ := room_inv hi hq
  rw [← hA1] at hi1 hq1 hne1 ⊢
  obtain ⟨r, hr⟩ := hi.prev hq
  obtain ⟨s, hs⟩ := hi.next hq
  have er := (hi.ring _ _ hr).2
  have es := (hi.ring _ _ hs).1
  have hsz := hi.size
  have hqn := fr_lt hq
  have hb : w.cell? ⟨g, q * 2, none⟩ = some (.int .i32 (-(r : Int))) := by rw [← er]; exact ha.cb hqn
  have hc : w.cell? ⟨g, q * 2 + 1, none⟩ = some (.int .i32 (-(s : Int))) := by rw [← es]; exact ha.cc hqn
  have hv : w.cell? ⟨dp, 0, none⟩ = some (.slice (some ⟨g, 0, none⟩) A.n A.n) := ha.cv
  have HRM : Hid (A1 = if (-(r : Int)) = -(s : Int) then grown A else A) := Lib.hid (by rw [hA1, room, er, es])
  have HA := Lib.hid ha
  have HN1 := Lib.hid hne1
  clear ha er es hA1 hne1
  go_enter Tryd.func159, Tryd.ntmps159
  go_wp2_with fail
  go_quiet (fail)
  go_upto_if 22 with fail
  have A0 : Hid (Arr dp g A (w.drewN nq)) := Lib.hid ⟨HA.out.var, HA.out.arr⟩
  have K0 : Hid (Kp dp g w (w.drewN nq)) := Lib.hid ⟨rfl, rfl, rfl, Nat.le_refl _, fun _ _ _ _ => rfl⟩
  generalize w.drewN nq = w1 at A0 K0 ⊢
  clear hb hc hv
  go_cut [] from 22 to 24 (fun wx => ∃ g1, Hid (Arr dp g1 A1 wx) ∧ Hid (g1 = g ∨ w.heap.size ≤ g1) ∧ Hid (Kp dp g w wx))
  case first =>
    by_cases he : (-(r : Int)) = -(s : Int)
    · have hb : (-(r : Int) == -(s : Int)) = true := by simpa using he
      have hx : A1 = grown A := by rw [HRM.out, if_pos he]
      go_wp2_with fail
      refine (expand_any dp g A M w1 A0.out hi).mono ?_
      rintro e w2 ⟨rfl, g2, h2, hg2, hk2⟩
      have HX := Lib.hid h2
      have HY := Lib.hid hg2
      have HZ := Lib.hid hk2
      clear h2 hg2 hk2 hb he
      go_wp2_with fail
      go_meet
      exact ⟨g2, Lib.hid (by rw [hx]; exact HX.out), Lib.hid (.inr (Nat.le_trans K0.out.size HY.out)), Lib.hid (K0.out.trans HZ.out (.inl rfl))⟩
    · have hb : (-(r : Int) == -(s : Int)) = false := by simpa using he
      have hx : A1 = A := by rw [HRM.out, if_neg he]
      go_wp2_with fail
      go_meet
      exact ⟨g, Lib.hid (by rw [hx]; exact A0.out), Lib.hid (.inl rfl), K0⟩
  case rest =>
    obtain ⟨g1, HA1, HG1, HK1⟩ := hcut
    obtain ⟨wa, rfl⟩ : ∃ wa : World, wa = wc := ⟨_, rfl⟩
    clear A0 K0 HA HRM hr hs hi hq hqn hsz
    obtain ⟨r1, hr⟩ := hi1.prev hq1
    obtain ⟨s1, hs⟩ := hi1.next hq1
    obtain ⟨f1, hf1⟩ := hi1.first
    have er := (hi1.ring _ _ hr).2
    have es := (hi1.ring _ _ hs).1
    have e0 := hi1.c0 _ hf1
    have hsz := hi1.size
    have hqn := fr_lt hq1
    have hrn := fr_lt hr.1
    have hsn := fr_lt hs.2.1
    have hfn := fr_lt hf1.1
    have hq0 := hq1.1
    have hb : wa.cell? ⟨g1, q * 2, none⟩ = some (.int .i32 (-(r1 : Int))) := by rw [← er]; exact HA1.out.cb hqn
    have hc : wa.cell? ⟨g1, q * 2 + 1, none⟩ = some (.int .i32 (-(s1 : Int))) := by rw [← es]; exact HA1.out.cc hqn
    have hc0 : wa.cell? ⟨g1, 1, none⟩ = some (.int .i32 (-(f1 : Int))) := by rw [← e0]; exact HA1.out.cc (i := 0) (by omega)
    have hv : wa.cell? ⟨dp, 0, none⟩ = some (.slice (some ⟨g1, 0, none⟩) A1.n A1.n) := HA1.out.cv
    have HR := Lib.hid er
    have HS := Lib.hid es
    have H0 := Lib.hid e0
    clear er es e0 hr hs hf1
    go_upto_if 50 with fail
    have h0b : wa.frozen? ⟨g1, 1, none⟩ = false := HA1.out.f 1
    obtain ⟨A2, hA2⟩ : ∃ A2 : DA, A2 = { A1 with c := if -(q : Int) = A1.c 0 then upd A1.c 0 (-(s1 : Int)) else A1.c } := ⟨_, rfl⟩
    have HA2 := Lib.hid hA2
    clear hA2
    go_cut [] from 50 to 62 (fun wx => Hid (Arr dp g1 A2 wx) ∧ Hid (Kp dp g w wx))
    case first =>
      by_cases he : -(q : Int) = -(f1 : Int)
      · have hx : (-(q : Int) == -(f1 : Int)) = true := by simpa using he
        go_wp2_with fail
        go_region
        go_wp2_with fail
        go_meet
        refine ⟨Lib.hid ?_, Lib.hid ?_⟩
        · have := HA1.out.set_c (i := 0) (by omega) (-(s1 : Int))
          rw [HA2.out, H0.out, if_pos he]
          exact ⟨this.var, this.arr⟩
        · exact (HK1.out.trans ((Kp.refl dp g1 wa).set (.inr (.inl rfl)) _) HG1.out).drew
      · have hx : (-(q : Int) == -(f1 : Int)) = false := by simpa using he
        go_wp2_with fail
        go_meet
        refine ⟨Lib.hid ?_, HK1⟩
        rw [HA2.out, H0.out, if_neg he]
        exact HA1.out
    case rest =>
      obtain ⟨HB, HK⟩ := hcut
      have n2 : A2.n = A1.n := by rw [HA2.out]
      have hqn2 : q < A2.n := by omega
      have hrn2 : r1 < A2.n := by omega
      have hsn2 : s1 < A2.n := by omega
      have hsz2 : A2.n ≤ 536870918 := by omega
      have b2 : A2.b q = -(r1 : Int) := by rw [HA2.out]; exact HR.out
      have c2 : A2.c q = -(s1 : Int) := by
        rw [HA2.out]
        show (if _ then upd A1.c 0 (-(s1 : Int)) else A1.c) q = _
        split
        · rw [upd_ne _ _ (by omega)]; exact HS.out
        · exact HS.out
      clear hb hc hc0 hv h0b HA1 n2 hqn hrn hsn hsz
      have hv : wc.cell? ⟨dp, 0, none⟩ = some (.slice (some ⟨g1, 0, none⟩) A2.n A2.n) := HB.out.cv
      have hb : wc.cell? ⟨g1, q * 2, none⟩ = some (.int .i32 (-(r1 : Int))) := by rw [← b2]; exact HB.out.cb hqn2
      obtain ⟨x, hx⟩ : ∃ x, wc.cell? ⟨g1, s1 * 2, none⟩ = some (.int .i32 x) := ⟨_, HB.out.cb hsn2⟩
      have hf := HB.out.f (s1 * 2)
      have HB2 := Lib.hid b2
      have HC2 := Lib.hid c2
      clear b2 c2
      go_wp2_with fail
      go_region
      generalize hw3 : World.drew _ = w3
      have A3 : Arr dp g1 { A2 with b := upd A2.b s1 (-(r1 : Int)) } w3 := by
        have := HB.out.set_b hsn2 (-(r1 : Int))
        subst hw3
        exact ⟨this.var, this.arr⟩
      have HK3 : Hid (Kp dp g w w3) := Lib.hid (by subst hw3; exact (HK.out.trans ((Kp.refl dp g1 wc).set (.inr (.inl rfl)) _) HG1.out).drew)
      clear hw3 hv hb hx hf HB HK
      have hv : w3.cell? ⟨dp, 0, none⟩ = some (.slice (some ⟨g1, 0, none⟩) A2.n A2.n) := A3.cv
      have hc : w3.cell? ⟨g1, q * 2 + 1, none⟩ = some (.int .i32 (-(s1 : Int))) := by rw [← HC2.out]; exact A3.cc hqn2
      obtain ⟨x, hx⟩ : ∃ x, w3.cell? ⟨g1, r1 * 2 + 1, none⟩ = some (.int .i32 x) := ⟨_, A3.cc hrn2⟩
      have hf := A3.f (r1 * 2 + 1)
      have HA3 := Lib.hid A3
      clear A3
      go_wp2_with fail
      go_region
      generalize hw4 : World.drew _ = w4
      have A4 : Arr dp g1 { A2 with b := upd A2.b s1 (-(r1 : Int)), c := upd A2.c r1 (-(s1 : Int)) } w4 := by
        have := HA3.out.set_c hrn2 (-(s1 : Int))
        subst hw4
        exact ⟨this.var, this.arr⟩
      have HK4 : Hid (Kp dp g w w4) := Lib.hid (by subst hw4; exact (HK3.out.trans ((Kp.refl dp g1 w3).set (.inr (.inl rfl)) _) HG1.out).drew)
      clear hw4 hv hc hx hf HK3 HA3
      have hv : w4.cell? ⟨dp, 0, none⟩ = some (.slice (some ⟨g1, 0, none⟩) A2.n A2.n) := A4.cv
      obtain ⟨x, hx⟩ : ∃ x, w4.cell? ⟨g1, q * 2 + 1, none⟩ = some (.int .i32 x) := ⟨_, A4.cc hqn2⟩
      have hf := A4.f (q * 2 + 1)
      have HA5 := Lib.hid (A4.set_c hqn2 (v : Int))
      clear A4
      go_wp2
      go_end0
      refine ⟨rfl, g1, ?_, HG1.out, HK4.out.trans ((Kp.refl dp g1 w4).set (.inr (.inl rfl)) _) HG1.out⟩
      have e : take A1 q v = { A2 with b := upd A2.b s1 (-(r1 : Int)), c := upd (upd A2.c r1 (-(s1 : Int))) q (v : Int) } := by
        unfold take
        rw [HA2.out, HR.out, HS.out]
        simp
      rw [e]
      exact HA5.out

set_option maxHeartbeats 1000000 in
set_option maxRecDepth 100000 in
theorem setBase_any (dp g : Nat) (A : DA) (M p B : Nat) (w : World) (ha : Arr dp g A w) (hi : Inv A M) (hp : Us A p) (hB : B ≤ 536870918) :
    Calls Tryd.prog 158 #[.pointer (some ⟨dp, 0, none⟩), .int .i64 p, .int .i64 B] w fun e w' => e = .returned (.tuple #[]) ∧ Arr dp g (setBase A p B) w' ∧ Kp dp g w w' := by
  have hpn := hp.1
  have hsz := hi.size
  have hv : w.cell? ⟨dp, 0, none⟩ = some (.slice (some ⟨g, 0, none⟩) A.n A.n) := ha.cv
  by_cases h0 : p = 0
  · have HA := Lib.hid ha
    clear ha
    subst h0
    go_enter Tryd.func158, Tryd.ntmps158
    go_wp2
    exact bodyPost_ret (v := .tuple #[]) (by simp [results, Tryd.results158, go_sem]) rfl ⟨rfl, HA.out, Kp.refl _ _ _⟩
  · have hp0 : 0 < p := by omega
    obtain ⟨x, hx⟩ : ∃ x : Nat, A.c p = x := ⟨(A.c p).toNat, by have := hp.2; omega⟩
    have hxb := (hi.rc p hpn).2
    have hxx : x ≤ 2147483647 := by omega
    have hc : w.cell? ⟨g, p * 2 + 1, none⟩ = some (.int .i32 (x : Int)) := by rw [← hx]; exact ha.cc hpn
    obtain ⟨y, hy⟩ : ∃ y, w.cell? ⟨g, p * 2, none⟩ = some (.int .i32 y) := ⟨_, ha.cb hpn⟩
    have hf := ha.f (p * 2)
    have HS := Lib.hid (ha.set_b hpn (B : Int))
    clear ha hx hxb
    go_enter Tryd.func158, Tryd.ntmps158
    go_wp2
    go_end0
    refine ⟨rfl, ?_, (Kp.refl dp g w).set (.inr (.inl rfl)) _⟩
    rw [setBase, if_neg h0]
    exact HS.out
end Go.Proofs.YteoljiclmhmbnaaDoor.Da

/-
  The walk of seekAndMark.
-/
set_option linter.unusedVariables false
set_option linter.unusedSimpArgs false
namespace Go.Proofs.YteoljiclmhmbnaaDoor.Da
open Go.RowKit Go.Proofs.YteoljiclmhmbnaaDoor.K Go.Proofs.YteoljiclmhmbnaaDoorW.PrintWords

/-- Characters in memory. -/
def Chars (cb : Nat) (chars : List Nat) (w : World) : Prop := ∀ j (h : j < chars.length), w.cell? ⟨cb, j, none⟩ = some (.int .u8 (chars[j] : Int))
theorem Chars.keep {cb : Nat} {chars : List Nat} {w w' : World} (h : Chars cb chars w) (hb : w'.heap[cb]? = w.heap[cb]?) : Chars cb chars w' := fun j hj => (World.cell?_of_block (w := w) (a := ⟨cb, j, none⟩) hb).trans (h j hj)

/-- The frame of seekAndMark at its label. -/
def AtLabel (dp cb p n cap rep f : Nat) (a : Act) : Prop := ∃ x8 x10 x11 x19 x20 x21 x22 x23 x24 x25 x26 x27 x28 x29 x30 x31 x32 x33 x34 x35 x36 x37 x38 x39 x40 x41 x42 x43 x44 x45 x46 x47 x48 x49 x50 x51 x52 x53 x54 x55 x56 x57 x58 x59 x60 x61 x62 x63 x64 x65 x66 x67 x68 x69 x70 x71 x72 x73 x74 x75 x76 x77 x78 x79 : Value, a = { tmps := #[.pointer (some ⟨dp, 0, none⟩), .int .i64 p, .slice (some ⟨cb, 0, none⟩) n cap, undef, undef, undef, .int .i64 f, .int .i64 rep, x8, undef, x10, x11, undef, undef, undef, .slice (some ⟨cb, 0, none⟩) n cap, .pointer (some ⟨cb, 0, none⟩), .int .u8 rep, .int .i64 rep, x19, x20, x21, x22, x23, x24, x25, x26, x27, x28, x29, x30, x31, x32, x33, x34, x35, x36, x37, x38, x39, x40, x41, x42, x43, x44, x45, x46, x47, x48, x49, x50, x51, x52, x53, x54, x55, x56, x57, x58, x59, x60, x61, x62, x63, x64, x65, x66, x67, x68, x69, x70, x71, x72, x73, x74, x75, x76, x77, x78, x79, undef, undef, undef, undef, undef, undef, undef, undef, undef, undef, undef, undef, undef, undef, undef, undef, undef, undef, undef, undef, undef, undef, undef, undef, undef, undef, undef, undef, undef, undef, undef, undef, undef, undef], defers := [] }
theorem wp_skip_seq {P : Program} {a : Act} {w : World} {Q : Exit → Act → World → Prop} {r : Code} (h : r.wp P Q a w) : (Code.skip.seq r).wp P Q a w := wp_seq (wp_skip h)
theorem scope_jumps {P : Program} {a : Act} {w : World} {Q : Exit → Act → World → Prop} {c r : Code} (l : Nat) (J : Act → World → Prop) (μ : Act → World → Nat) (hf : findLabel c l = some (Code.skip.seq r)) (a0 : Act) (w0 : World) (hJ : J a0 w0)
    (first : r.wp P (Exit.jump l J Q) a0 w0 → c.wp P (Exit.jump l J Q) a w) (pass : ∀ a w, J a w → r.wp P (Exit.jump l (fun a' w' => J a' w' ∧ μ a' w' < μ a w) Q) a w) : (Code.scope c).wp P Q a w :=
  wp_scope_jumps l J μ hf (first (wp_mono (pass a0 w0 hJ) (fun e a w h => by cases e <;> first | exact h | exact ⟨h.1, h.2.1⟩))) (fun a w hJ => wp_skip_seq (pass a w hJ))

/-- Grown or not: what is used stays. -/
structure Same (A A1 : DA) : Prop where
  n : A.n ≤ A1.n
  us : ∀ i, Us A1 i ↔ Us A i
  c : ∀ i, Us A i → A1.c i = A.c i
  b : ∀ i, Us A i → A1.b i = A.b i
theorem Same.refl (A : DA) : Same A A := ⟨Nat.le_refl _, fun _ => Iff.rfl, fun _ _ => rfl, fun _ _ => rfl⟩
theorem Same.grown {A A1 : DA} {M : Nat} (h : Same A A1) (hi : Inv A1 M) : Same A (grown A1) :=
  ⟨by have := h.n; show A.n ≤ 2 * A1.n; omega, fun i => (grown_us hi i).trans (h.us i), fun i hu => (grown_old hi ((h.us i).2 hu)).1.trans (h.c i hu), fun i hu => (grown_old hi ((h.us i).2 hu)).2.trans (h.b i hu)⟩
theorem Opened.same {A A1 A' : DA} {p B : Nat} {chars : List Nat} (h : Opened A1 A' p B chars) (s : Same A A1) : Opened A A' p B chars := by
  refine ⟨⟨Nat.le_trans s.n h.ext.n, fun i hu => h.ext.us i ((s.us i).2 hu), fun i hu h0 => (h.ext.c i ((s.us i).2 hu) h0).trans (s.c i hu), fun i hu hx => (h.ext.b i ((s.us i).2 hu) hx).trans (s.b i hu), fun i hu h0 => ?_⟩, h.base, h.pos, fun ch hch => ?_, fun i hu => ?_⟩
  · rcases h.ext.fresh i hu h0 with h1 | ⟨q, hq, hor, hu'⟩
    · exact .inl ((s.us i).1 h1)
    · exact .inr ⟨q, hq, hor.imp id (fun hn hq' => hn ((s.us q).2 hq')), hu'⟩
  · obtain ⟨h1, h2, h3, h4⟩ := h.kids ch hch
    exact ⟨h1, h2, fun hu => h3 ((s.us _).2 hu), h4⟩
  · rcases h.only i hu with h1 | h1
    · exact .inl ((s.us i).1 h1)
    · exact .inr h1

/-- What holds when the search stands at a free cell, or at 0, and has failed so far. -/
def Stand (dp g : Nat) (A : DA) (M rep : Nat) (w : World) (f : Nat) (w1 : World) : Prop :=
  ∃ A1 g1, Arr dp g1 A1 w1 ∧ Inv A1 M ∧ Same A A1 ∧ At A1 f ∧ f ≤ max M rep ∧ (g1 = g ∨ w.heap.size ≤ g1) ∧ Kp dp g w w1
set_option maxHeartbeats 1000000 in
set_option maxRecDepth 100000 in
theorem seek_any (dp g cb cap : Nat) (A : DA) (M p : Nat) (chars : List Nat) (w : World) (ha : Arr dp g A w) (hi : Inv A M) (hM : M + 256 ≤ 268435456) (hp : Us A p)
    (hch : Chars cb chars w) (hcd : cb ≠ dp) (hcg : cb ≠ g) (hcl : cb < w.heap.size) (hne : 0 < chars.length) (hlen : chars.length ≤ 100000) (hasc : chars.Pairwise (· < ·)) (hby : ∀ c ∈ chars, c ≤ 255) (h0 : p = 0 → M = 0 ∧ 1 ≤ chars[0]!) :
    Calls Tryd.prog 134 #[.pointer (some ⟨dp, 0, none⟩), .int .i64 p, .slice (some ⟨cb, 0, none⟩) chars.length cap] w fun e w' => e = .returned (.tuple #[]) ∧ ∃ A' g' B, Arr dp g' A' w' ∧ Inv A' (M + 256) ∧ Opened A A' p B chars ∧ (g' = g ∨ w.heap.size ≤ g') ∧ Kp dp g w w' := by
  have hrc := hch 0 hne
  obtain ⟨rep, hrep⟩ : ∃ rep, rep = chars[0] := ⟨_, rfl⟩
  rw [← hrep] at hrc
  have hr255 : rep ≤ 255 := by rw [hrep]; exact hby _ (List.getElem_mem _)
  have HP := Lib.hid hrep
  have HA := Lib.hid ha
  have HC := Lib.hid hch
  have HB := Lib.hid hby
  have HS := Lib.hid hasc
  have H0 := Lib.hid h0
  clear hrep ha hch hby hasc h0
  go_enter Tryd.func134, Tryd.ntmps134
  go_wp2_with fail
  obtain ⟨J, HJ⟩ : ∃ J : Act → World → Prop, Hid (J = fun a w1 => ∃ f, AtLabel dp cb p chars.length cap rep f a ∧ Stand dp g A M rep w f w1) := ⟨_, Lib.hid rfl⟩
  refine scope_jumps 0 J (fun a _ => max M rep + 1 - (intOf a.tmps[6]!).toNat) rfl { tmps := #[.pointer (some ⟨dp, 0, none⟩), .int .i64 p, .slice (some ⟨cb, 0, none⟩) chars.length cap, undef, undef, undef, .int .i64 0, .int .i64 rep, .int .i64 0, undef, undef, undef, undef, undef, undef, .slice (some ⟨cb, 0, none⟩) chars.length cap, .pointer (some ⟨cb, 0, none⟩), .int .u8 rep, .int .i64 rep, undef, undef, undef, undef, undef, undef, undef, undef, undef, undef, undef, undef, undef, undef, undef, undef, undef, undef, undef, undef, undef, undef, undef, undef, undef, undef, undef, undef, undef, undef, undef, undef, undef, undef, undef, undef, undef, undef, undef, undef, undef, undef, undef, undef, undef, undef, undef, undef, undef, undef, undef, undef, undef, undef, undef, undef, undef, undef, undef, undef, undef, undef, undef, undef, undef, undef, undef, undef, undef, undef, undef, undef, undef, undef, undef, undef, undef, undef, undef, undef, undef, undef, undef, undef, undef, undef, undef, undef, undef, undef, undef, undef, undef, undef, undef], defers := [] } w ?hJ (fun h => ?first) ?pass
  case hJ => rw [HJ.out]; exact ⟨0, ⟨_, _, _, _, _, _, _, _, _, _, _, _, _, _, _, _, _, _, _, _, _, _, _, _, _, _, _, _, _, _, _, _, _, _, _, _, _, _, _, _, _, _, _, _, _, _, _, _, _, _, _, _, _, _, _, _, _, _, _, _, _, _, _, _, rfl⟩, A, g, HA.out, hi, Same.refl A, .inl rfl, Nat.zero_le _, .inl rfl, Kp.refl _ _ _⟩
  case first =>
    generalize Exit.jump _ _ _ = Q at h ⊢
    go_wp2_with fail
    refine wp_label ?_
    rename_i hK
    exact hK _ _ h
  case pass =>
    intro a w1 hJ
    rw [HJ.out] at hJ
    obtain ⟨f, ⟨x8, x10, x11, x19, x20, x21, x22, x23, x24, x25, x26, x27, x28, x29, x30, x31, x32, x33, x34, x35, x36, x37, x38, x39, x40, x41, x42, x43, x44, x45, x46, x47, x48, x49, x50, x51, x52, x53, x54, x55, x56, x57, x58, x59, x60, x61, x62, x63, x64, x65, x66, x67, x68, x69, x70, x71, x72, x73, x74, x75, x76, x77, x78, x79, rfl⟩, hS⟩ := hJ
    have HS0 := Lib.hid hS
    clear hS
    go_wp2_with fail
    go_loopw [6, 8] (fun fv bv wr => ∃ f' : Nat, fv = .int .i64 f' ∧ f ≤ f' ∧ Hid (Stand dp g A M rep w f' wr)) (fun fv _ _ => max M rep + 1 - (intOf fv).toNat)
    case atStart => exact ⟨f, rfl, Nat.le_refl _, HS0⟩
    case round =>
      obtain ⟨f', rfl, hff, HST⟩ := hrel
      obtain ⟨A1, g1, a1, i1, s1, at1, le1, gg1, k1⟩ := HST.out
      have hsz := i1.size
      have hfn : f' < A1.n := by
        have := i1.big
        rcases at1 with h | h
        · omega
        · exact fr_lt h
      obtain ⟨ff, hfi⟩ := i1.first
      have e0 := i1.c0 _ hfi
      have hv : wr.cell? ⟨dp, 0, none⟩ = some (.slice (some ⟨g1, 0, none⟩) A1.n A1.n) := a1.cv
      have hc0 : wr.cell? ⟨g1, 1, none⟩ = some (.int .i32 (-(ff : Int))) := by rw [← e0]; exact a1.cc (i := 0) (by omega)
      obtain ⟨x, hx⟩ : ∃ x : Nat, A1.c f' = -(x : Int) := by
        rcases at1 with h | h
        · exact ⟨ff, by rw [h]; exact e0⟩
        · obtain ⟨s, hs⟩ := i1.next h
          exact ⟨s, (i1.ring _ _ hs).1⟩
      have hcx : wr.cell? ⟨g1, f' * 2 + 1, none⟩ = some (.int .i32 (-(x : Int))) := by rw [← hx]; exact a1.cc hfn
      have HA1 := Lib.hid a1
      have HI1 := Lib.hid i1
      have HS1 := Lib.hid s1
      have HT1 := Lib.hid at1
      have HG1 := Lib.hid gg1
      have HK1 := Lib.hid k1
      have HX := Lib.hid hx
      have HE0 := Lib.hid e0
      have HF := Lib.hid hfi
      clear a1 i1 s1 at1 gg1 k1 hx e0 hfi
      refine wp_block ?_
      refine wp_seq_k (fun K hK => ?_)
      go_cut [] (fun wx => ∃ A2 g2, Hid (Arr dp g2 A2 wx) ∧ Hid (Inv A2 M) ∧ Hid (Same A A2) ∧ Hid (At A2 f') ∧ Hid (f' ≠ 0 → ¬ Last A2 f') ∧ Hid (g2 = g ∨ w.heap.size ≤ g2) ∧ Hid (Kp dp g w wx))
      case first =>
        by_cases hf0 : f' = 0
        · have hg1 : ((f' : Int) != 0) = false := by simp [hf0]
          go_wp2_with fail
          go_quiet (fail)
          go_wp2_with fail
          go_meet
          refine ⟨A1, g1, Lib.hid ⟨HA1.out.var, HA1.out.arr⟩, HI1, HS1, HT1, Lib.hid (fun h => absurd hf0 h), HG1, Lib.hid ⟨HK1.out.os, HK1.out.tape, HK1.out.output, HK1.out.size, HK1.out.block⟩⟩
        · have hg1 : ((f' : Int) != 0) = true := by simp [hf0]
          have hfr : Fr A1 f' := by
            rcases HT1.out with h | h
            · exact absurd h hf0
            · exact h
          by_cases he : (-(x : Int)) = -(ff : Int)
          · have hb : (-(x : Int) == -(ff : Int)) = true := by simpa using he
            have HL : Hid (Last A1 f') := Lib.hid ((at_last HI1.out hfr).1 (by rw [HX.out, HE0.out, he]))
            have HQ : Hid (A1.n ≤ M + 3) := Lib.hid (seek_wrap HI1.out HL.out (by rcases HST.out with ⟨_, _, _, _, _, _, h, _⟩; exact h) hr255)
            have HFR := Lib.hid hfr
            clear hfr he
            go_wp2_with fail
            go_quiet (fail)
            have A0 : Hid (Arr dp g1 A1 (wr.drewN nq)) := Lib.hid ⟨HA1.out.var, HA1.out.arr⟩
            have K0 : Hid (Kp dp g w (wr.drewN nq)) := Lib.hid ⟨HK1.out.os, HK1.out.tape, HK1.out.output, HK1.out.size, HK1.out.block⟩
            generalize wr.drewN nq = w2 at A0 K0 ⊢
            clear hv hc0 hcx
            go_wp2_with fail
            refine (expand_any dp g1 A1 M w2 A0.out HI1.out).mono ?_
            rintro e w3 ⟨rfl, g2, h2, hg2, hk2⟩
            have HY1 := Lib.hid h2
            have HY2 := Lib.hid hg2
            have HY3 := Lib.hid hk2
            clear h2 hg2 hk2
            go_wp2_with fail
            go_meet
            refine ⟨grown A1, g2, HY1, Lib.hid (grown_inv HI1.out HQ.out), Lib.hid (HS1.out.grown HI1.out), Lib.hid (.inr ((grown_fr HI1.out _).2 (.inl HFR.out))), Lib.hid (fun _ => grown_not_last HI1.out HFR.out), Lib.hid (.inr (Nat.le_trans K0.out.size HY2.out)), Lib.hid (K0.out.trans HY3.out HG1.out)⟩
          · have hb : (-(x : Int) == -(ff : Int)) = false := by simpa using he
            have HL : Hid (¬ Last A1 f') := Lib.hid (fun h => he (by have := (at_last HI1.out hfr).2 h; rw [HX.out, HE0.out] at this; exact this))
            clear hfr he
            go_wp2_with fail
            go_quiet (fail)
            go_wp2_with fail
            go_meet
            exact ⟨A1, g1, Lib.hid ⟨HA1.out.var, HA1.out.arr⟩, HI1, HS1, HT1, Lib.hid (fun _ => HL.out), HG1, Lib.hid ⟨HK1.out.os, HK1.out.tape, HK1.out.output, HK1.out.size, HK1.out.block⟩⟩
      case rest =>
        obtain ⟨A2, g2, HA2, HI2, HS2, HT2, HL2, HG2, HK2⟩ := hcut
        have hle : f' ≤ max M rep := by rcases HST.out with ⟨_, _, _, _, _, _, h, _⟩; exact h
        obtain ⟨f2, hc2, hfr2, hlt2, hle2⟩ := seek_next HI2.out HT2.out hle hr255 HL2.out
        have hsz2 := HI2.out.size
        have hfn2 : f' < A2.n := by
          have := HI2.out.big
          rcases HT2.out with h | h
          · omega
          · exact fr_lt h
        have hfn3 := fr_lt hfr2
        have hv2 : wc.cell? ⟨dp, 0, none⟩ = some (.slice (some ⟨g2, 0, none⟩) A2.n A2.n) := HA2.out.cv
        have hcx2 : wc.cell? ⟨g2, f' * 2 + 1, none⟩ = some (.int .i32 (-(f2 : Int))) := by rw [← hc2]; exact HA2.out.cc hfn2
        have HC2 := Lib.hid hc2
        have HFR2 := Lib.hid hfr2
        have HLE := Lib.hid hle
        have HLE2 := Lib.hid hle2
        clear hc2 hfr2 hv hc0 hcx hle hle2
        by_cases hb : f2 ≤ rep
        · have hb1 : decide ((f2 : Int) - (rep : Int) ≤ 0) = true := by simp; omega
          have HST2 : Hid (Stand dp g A M rep w f2 wc) := Lib.hid ⟨A2, g2, HA2.out, HI2.out, HS2.out, .inr HFR2.out, by omega, HG2.out, HK2.out⟩
          go_wp2_with fail
          exact ⟨⟨f2, rfl, by omega, HST2⟩, by simp [intOf]; omega⟩
        · obtain ⟨B, hB⟩ : ∃ B, B = f2 - rep := ⟨_, rfl⟩
          have hbz : (f2 : Int) - (rep : Int) = (B : Int) := by omega
          have hb1 : decide ((B : Int) ≤ 0) = false := by simp; omega
          have hB1 : 1 ≤ B := by omega
          have hB2 : rep + B = f2 := by omega
          have HBZ := Lib.hid hB2
          clear hB hB2
          go_wp2_with fail
          clear hbz hb1 hcx2
          go_loop [55] (fun j => ∃ k : Nat, k ≤ chars.length ∧ j = .int .i64 k ∧ Hid (∀ i (h : i < chars.length), i < k → A2.n ≤ B + chars[i] ∨ Fr A2 (B + chars[i]))) (fun j => chars.length - (intOf j).toNat)
          case atStart => exact ⟨0, Nat.zero_le _, rfl, Lib.hid (fun i _ h => by omega)⟩
          case round =>
            obtain ⟨k, hk, rfl, HFI⟩ := hrel
            by_cases hlt : k < chars.length
            · obtain ⟨ch, hch⟩ : ∃ ch, ch = chars[k] := ⟨_, rfl⟩
              have hcc : wc.cell? ⟨cb, k, none⟩ = some (.int .u8 (ch : Int)) := by
                rw [hch]
                exact (HC.out.keep (HK2.out.block cb hcl hcd hcg)) k hlt
              have h255 : ch ≤ 255 := by rw [hch]; exact HB.out _ (List.getElem_mem _)
              have HCH := Lib.hid hch
              clear hch
              have hBb : (B : Int) ≤ 536870918 := by have := HBZ.out; omega
              obtain ⟨q, hqe⟩ : ∃ q, q = B + ch := ⟨_, rfl⟩
              have hqz : (B : Int) + (ch : Int) = (q : Int) := by omega
              have HQE := Lib.hid hqe
              clear hqe
              by_cases hq : q < A2.n
              · have hq1 : decide (q < A2.n) = true := by simpa using hq
                obtain ⟨y, hy⟩ : ∃ y, y = A2.c q := ⟨_, rfl⟩
                have hcy : wc.cell? ⟨g2, q * 2 + 1, none⟩ = some (.int .i32 y) := by rw [hy]; exact HA2.out.cc hq
                have HY := Lib.hid hy
                clear hy
                by_cases hy0 : 0 ≤ y
                · have hy1 : decide (0 ≤ y) = true := by simpa using hy0
                  have HST2 : Hid (Stand dp g A M rep w f2 wc) := Lib.hid (by
                    have hus : Us A2 q := ⟨hq, .inr (by rw [← HY.out]; exact hy0)⟩
                    have := HI2.out.us q hus
                    have h1 := HBZ.out
                    have h2 := HQE.out
                    have h3 : rep ≤ ch := by
                      rw [HP.out, HCH.out]
                      rcases Nat.eq_zero_or_pos k with hk0 | hk0
                      · subst hk0; exact Nat.le_refl _
                      · exact Nat.le_of_lt (List.pairwise_iff_getElem.1 HS.out 0 k hne hlt hk0)
                    exact ⟨A2, g2, HA2.out, HI2.out, HS2.out, .inr HFR2.out, by omega, HG2.out, HK2.out⟩)
                  have hle2 := HLE2.out
                  have hle := HLE.out
                  have hbz := HBZ.out
                  go_wp2_with fail
                  go_step3
                  refine ⟨rfl, ?_, ?_⟩
                  · rw [HJ.out]
                    exact ⟨f2, ⟨_, _, _, _, _, _, _, _, _, _, _, _, _, _, _, _, _, _, _, _, _, _, _, _, _, _, _, _, _, _, _, _, _, _, _, _, _, _, _, _, _, _, _, _, _, _, _, _, _, _, _, _, _, _, _, _, _, _, _, _, _, _, _, _, rfl⟩, HST2.out⟩
                  · simp [intOf]
                    omega
                · have hy1 : decide (0 ≤ y) = false := by simpa using hy0
                  have HFI2 : Hid (∀ i (h : i < chars.length), i < k + 1 → A2.n ≤ B + chars[i] ∨ Fr A2 (B + chars[i])) := Lib.hid (by
                    intro i h hik
                    by_cases hie : i = k
                    · subst hie
                      rw [← HCH.out, ← HQE.out]
                      have := HQE.out
                      exact .inr ⟨by omega, hq, by rw [← HY.out]; omega⟩
                    · exact HFI.out i h (by omega))
                  go_wp2_with fail
                  exact ⟨⟨k + 1, by omega, by go_num, HFI2⟩, by simp [intOf]; omega⟩
              · have hq2 : decide (q < A2.n) = false := by simpa using hq
                have HFI2 : Hid (∀ i (h : i < chars.length), i < k + 1 → A2.n ≤ B + chars[i] ∨ Fr A2 (B + chars[i])) := Lib.hid (by
                  intro i h hik
                  by_cases hie : i = k
                  · subst hie
                    rw [← HCH.out, ← HQE.out]
                    exact .inl (by omega)
                  · exact HFI.out i h (by omega))
                go_wp2_with fail
                exact ⟨⟨k + 1, by omega, by go_num, HFI2⟩, by simp [intOf]; omega⟩
            · obtain rfl : k = chars.length := by omega
              have hfits : Fits A2 B chars := by
                intro c hc
                obtain ⟨i, hi', rfl⟩ := List.mem_iff_getElem.1 hc
                exact HFI.out i hi' hi'
              have hup : Us A2 p := (HS2.out.us p).2 hp
              have hbn : B < A2.n := by have := HBZ.out; omega
              have hp1 : p = 0 → B = 1 := by
                intro hp0
                obtain ⟨h1, h2⟩ := H0.out hp0
                have h3 := HBZ.out
                have h4 := HLE2.out
                omega
              have HMK := Lib.hid (mk_start HI2.out hup hp1 hB1 hbn hfits)
              have hB31 : B ≤ 536870918 := by omega
              have HUP := Lib.hid hup
              clear hfits hup hp1 hv2
              go_wp2_with fail
              refine (setBase_any dp g2 A2 M p B wc HA2.out HI2.out HUP.out hB31).mono ?_
              rintro e w3 ⟨rfl, ha3, hk3⟩
              have HA3 := Lib.hid ha3
              have HK3 := Lib.hid (HK2.out.trans hk3 HG2.out)
              clear ha3 hk3
              go_wp2_with fail
              obtain ⟨M1, hM1⟩ : ∃ M1, M1 = M + 256 := ⟨_, rfl⟩
              have hM1c : M1 ≤ 268435456 := by omega
              have hBM : B + 255 ≤ M1 := by
                have h3 := HBZ.out
                have h4 := HLE2.out
                omega
              have hp31 : p ≤ 536870918 := by have := HUP.out.1; omega
              have HM1 := Lib.hid hM1
              have HMK1 : Hid (Mk A2 (setBase A2 p B) p B [] chars M1) := Lib.hid { HMK.out with inv := HMK.out.inv.mono (by omega) hM1c }
              clear hM1
              go_loopw [86] (fun j wr => ∃ (k : Nat) (A3 : DA) (g3 : Nat), k ≤ chars.length ∧ j = .int .i64 k ∧ Hid (Arr dp g3 A3 wr) ∧ Hid (Mk A2 A3 p B (chars.take k) (chars.drop k) M1) ∧ Hid (g3 = g ∨ w.heap.size ≤ g3) ∧ Hid (Kp dp g w wr)) (fun j _ => chars.length - (intOf j).toNat)
              case atStart => exact ⟨0, _, g2, Nat.zero_le _, rfl, HA3, Lib.hid (by rw [List.take_zero, List.drop_zero]; exact HMK1.out), HG2, HK3⟩
              case round =>
                obtain ⟨k, A3, g3, hk, rfl, HA4, HMK2, HG3, HK4⟩ := hrel
                by_cases hlt : k < chars.length
                · obtain ⟨ch, hch⟩ : ∃ ch, ch = chars[k] := ⟨_, rfl⟩
                  have hcc : wr.cell? ⟨cb, k, none⟩ = some (.int .u8 (ch : Int)) := by
                    rw [hch]
                    exact (HC.out.keep (HK4.out.block cb hcl hcd hcg)) k hlt
                  have h255 : ch ≤ 255 := by rw [hch]; exact HB.out _ (List.getElem_mem _)
                  have hdrop : chars.drop k = ch :: chars.drop (k + 1) := by rw [hch]; exact List.drop_eq_getElem_cons hlt
                  have htake : chars.take (k + 1) = chars.take k ++ [ch] := by rw [hch, List.take_succ_eq_append_getElem hlt]
                  have HM3 : Hid (Mk A2 A3 p B (chars.take k) (ch :: chars.drop (k + 1)) M1) := Lib.hid (by rw [← hdrop]; exact HMK2.out)
                  have HTK := Lib.hid htake
                  have HNI : Hid (ch ∉ chars.drop (k + 1)) := Lib.hid (by
                    have h1 := HS.out.sublist (List.drop_sublist k chars)
                    rw [hdrop] at h1
                    intro hm
                    have := (List.pairwise_cons.1 h1).1 ch hm
                    omega)
                  clear hch hdrop htake
                  obtain ⟨q, hqe⟩ : ∃ q, q = B + ch := ⟨_, rfl⟩
                  have hBb : (B : Int) ≤ 536870918 := by omega
                  have hqz : (B : Int) + (ch : Int) = (q : Int) := by omega
                  have HQE := Lib.hid hqe
                  clear hqe
                  have hsz3 := HM3.out.inv.size
                  have hpn3 : p < A3.n := (HM3.out.op.ext.us p HUP.out).1
                  have hv3 : wr.cell? ⟨dp, 0, none⟩ = some (.slice (some ⟨g3, 0, none⟩) A3.n A3.n) := HA4.out.cv
                  have hb3 : wr.cell? ⟨g3, p * 2, none⟩ = some (.int .i32 (B : Int)) := by rw [← HM3.out.op.base]; exact HA4.out.cb hpn3
                  have HV3 := Lib.hid hv3
                  have HB3 := Lib.hid hb3
                  go_upto_if 106 with fail
                  clear hv3 hb3 hcc
                  go_cut [] (fun wx => ∃ A4 g4, Hid (Arr dp g4 A4 wx) ∧ Hid (Mk A2 A4 p B (chars.take k) (ch :: chars.drop (k + 1)) M1) ∧ Hid (q < A4.n) ∧ Hid (g4 = g ∨ w.heap.size ≤ g4) ∧ Hid (Kp dp g w wx))
                  case first =>
                    by_cases hge : A3.n ≤ q
                    · have hd : decide (A3.n ≤ q) = true := by simpa using hge
                      have hMM : A3.n ≤ M1 + 3 := by have := HQE.out; omega
                      have HMM := Lib.hid hMM
                      clear hMM
                      go_wp2_with fail
                      refine (expand_any dp g3 A3 M1 wr HA4.out HM3.out.inv).mono ?_
                      rintro e w4 ⟨rfl, g4, h2, hg2, hk2⟩
                      have HY1 := Lib.hid h2
                      have HY2 := Lib.hid hg2
                      have HY3 := Lib.hid hk2
                      clear h2 hg2 hk2
                      go_wp2_with fail
                      go_meet
                      refine ⟨grown A3, g4, HY1, Lib.hid (mk_grow HM3.out HMM.out HUP.out), Lib.hid ?_, Lib.hid (.inr (Nat.le_trans HK4.out.size HY2.out)), Lib.hid (HK4.out.trans HY3.out HG3.out)⟩
                      have h1 := HM3.out.lt
                      have h2 := HM3.out.inv.big
                      have h3 := HQE.out
                      show q < 2 * A3.n
                      omega
                    · have hd : decide (A3.n ≤ q) = false := by simpa using hge
                      have HLT : Hid (q < A3.n) := Lib.hid (by omega)
                      go_wp2_with fail
                      go_meet
                      exact ⟨A3, g3, HA4, HM3, HLT, HG3, HK4⟩
                  case rest =>
                    obtain ⟨A4, g4, HA5, HM4, HLT, HG4, HK5⟩ := hcut
                    have hfr : Fr A4 q := by
                      rcases HM4.out.rest ch (List.mem_cons_self ..) with h | h
                      · have := HLT.out; have := HQE.out; omega
                      · rw [HQE.out]; exact h
                    have HFR := Lib.hid hfr
                    clear hfr
                    go_wp2_with fail
                    refine (setCheck_any dp g4 A4 M1 q p wc HA5.out HM4.out.inv HFR.out hp31).mono ?_
                    rintro e w5 ⟨rfl, g5, h2, hg2, hk2⟩
                    have HY1 := Lib.hid h2
                    have HY2 := Lib.hid hg2
                    have HY3 := Lib.hid hk2
                    clear h2 hg2 hk2
                    have HMK5 : Hid (Mk A2 (take (room A4 q) q p) p B (chars.take (k + 1)) (chars.drop (k + 1)) M1) := Lib.hid (by
                      rw [HTK.out]
                      obtain ⟨j1, j2, j3⟩ := room_inv HM4.out.inv HFR.out
                      have hm : Mk A2 (room A4 q) p B (chars.take k) (ch :: chars.drop (k + 1)) M1 := by
                        unfold room
                        split
                        · rename_i he
                          exact mk_grow HM4.out (few_free HM4.out.inv HFR.out he) HUP.out
                        · exact HM4.out
                      have h3 := HQE.out
                      rw [h3] at j2 j3 hm ⊢
                      exact mk_take hm HUP.out (fr_lt j2) j3 HNI.out (by omega) (by have := HUP.out.1; have := HI2.out.us p HUP.out; omega))
                    have HG5 : Hid (g5 = g ∨ w.heap.size ≤ g5) := Lib.hid (by
                      rcases HY2.out with h | h
                      · rw [h]; exact HG4.out
                      · exact .inr (Nat.le_trans HK5.out.size h))
                    go_wp2_with fail
                    exact ⟨⟨k + 1, _, g5, by omega, by go_num, HY1, HMK5, HG5, Lib.hid (HK5.out.trans HY3.out HG4.out)⟩, by simp [intOf]; omega⟩
                · obtain rfl : k = chars.length := by omega
                  have HFIN : Hid (Mk A2 A3 p B chars [] M1) := Lib.hid (by
                    have := HMK2.out
                    rwa [List.take_length, List.drop_length] at this)
                  go_wp2_with fail
                  unfold Exit.jump
                  go_end0
                  exact ⟨rfl, A3, g3, B, HA4.out, by rw [← HM1.out]; exact HFIN.out.inv, HFIN.out.op.same HS2.out, HG3.out, HK4.out⟩
end Go.Proofs.YteoljiclmhmbnaaDoor.Da

/-
  Keys' rests, plain: the characters at which they part, the groups behind each.
-/
set_option linter.unusedVariables false
set_option linter.unusedSimpArgs false
namespace Go.Proofs.YteoljiclmhmbnaaDoor.Da

def head1 : List Nat → Nat
  | [] => 0
  | a :: _ => a
def push (cs : List Nat) (c : Nat) : List Nat := if cs.getLast? = some c then cs else cs ++ [c]
def charsF (l : List Nat) : List Nat := l.foldl push []
theorem charsF_snoc (l : List Nat) (x : Nat) : charsF (l ++ [x]) = push (charsF l) x := by simp [charsF, List.foldl_append]
/-- The order of lists. -/
def leL : List Nat → List Nat → Prop
  | [], _ => True
  | _ :: _, [] => False
  | a :: s, b :: t => a < b ∨ (a = b ∧ leL s t)
theorem leL_head {s t : List Nat} (h : leL s t) : head1 s ≤ head1 t := by
  cases s with
  | nil => exact Nat.zero_le _
  | cons a s =>
    cases t with
    | nil => exact h.elim
    | cons b t => rcases h with h | ⟨h, _⟩ <;> simp only [head1] <;> omega
abbrev Srt (ks : Ks) : Prop := ks.Pairwise fun x y => leL x.1 y.1
theorem tails_cons_hit (ch : Nat) (s : List Nat) (id : Int) (r : Ks) : tails ch ((ch :: s, id) :: r) = (s, id) :: tails ch r := by simp [tails]
theorem mem_tails {ch : Nat} {ks : Ks} {s : List Nat} {id : Int} : (s, id) ∈ tails ch ks ↔ (ch :: s, id) ∈ ks := by
  induction ks with
  | nil => simp [tails]
  | cons x r ih =>
    obtain ⟨t, i⟩ := x
    cases t with
    | nil => simp [tails, ih]
    | cons a t =>
      simp only [tails]
      split
      · rename_i h
        subst h
        simp [ih]
      · rename_i h
        rw [ih]
        simp
        intro h1
        exact absurd h1.symm h
theorem srt_tails {ks : Ks} (h : Srt ks) (ch : Nat) : Srt (tails ch ks) := by
  induction ks with
  | nil => exact List.Pairwise.nil
  | cons x r ih =>
    obtain ⟨t, i⟩ := x
    obtain ⟨h1, h2⟩ := List.pairwise_cons.1 h
    cases t with
    | nil => exact ih h2
    | cons a t =>
      simp only [tails]
      split
      · rename_i he
        subst he
        refine List.pairwise_cons.2 ⟨?_, ih h2⟩
        rintro ⟨s, id⟩ hm
        have := h1 _ (mem_tails.1 hm)
        rcases this with h3 | ⟨_, h3⟩
        · exact absurd h3 (Nat.lt_irrefl _)
        · exact h3
      · exact ih h2
theorem firstE_some {ks : Ks} {id : Int} (h : firstE ks = some id) : ([], id) ∈ ks := by
  induction ks with
  | nil => cases h
  | cons x r ih =>
    obtain ⟨t, i⟩ := x
    cases t with
    | nil => simp [firstE] at h; simp [h]
    | cons a t => exact List.mem_cons_of_mem _ (ih h)
theorem firstE_none {ks : Ks} : firstE ks = none ↔ ∀ x ∈ ks, x.1 ≠ [] := by
  induction ks with
  | nil => simp [firstE]
  | cons x r ih =>
    obtain ⟨t, i⟩ := x
    cases t with
    | nil => simp [firstE]
    | cons a t => simp [firstE, ih]
/-- If some key ends here, the first one does. -/
theorem firstE_head {ks : Ks} (hs : Srt ks) (h : firstE ks ≠ none) : ∃ id r, ks = ([], id) :: r ∧ firstE ks = some id := by
  cases ks with
  | nil => exact absurd rfl h
  | cons x r =>
    obtain ⟨t, i⟩ := x
    cases t with
    | nil => exact ⟨i, r, rfl, rfl⟩
    | cons a t =>
      refine absurd (firstE_none.2 ?_) h
      rintro y hy
      rcases List.mem_cons.1 hy with rfl | hy
      · simp
      · have := (List.pairwise_cons.1 hs).1 y hy
        intro e
        rw [e] at this
        exact this
theorem snoc_ind {α : Type} {P : List α → Prop} (h0 : P []) (h1 : ∀ l x, P l → P (l ++ [x])) : ∀ l, P l := by
  intro l
  have : ∀ n (l : List α), l.length = n → P l := by
    intro n
    induction n with
    | zero => intro l hl; rw [List.eq_nil_of_length_eq_zero hl]; exact h0
    | succ n ih =>
      intro l hl
      have hne : l ≠ [] := by rintro rfl; simp at hl
      rw [← List.dropLast_concat_getLast hne]
      exact h1 _ _ (ih _ (by simp; omega))
  exact this _ l rfl
theorem mem_push {cs : List Nat} {c x : Nat} : x ∈ push cs c ↔ x ∈ cs ∨ x = c := by
  unfold push
  split
  · rename_i h
    have := List.mem_of_getLast? h
    constructor
    · exact .inl
    · rintro (h | rfl)
      · exact h
      · exact this
  · simp
theorem charsF_mem (l : List Nat) : ∀ c, c ∈ charsF l ↔ c ∈ l := by
  refine snoc_ind (P := fun l => ∀ c, c ∈ charsF l ↔ c ∈ l) (by simp [charsF]) ?_ l
  intro l x ih c
  rw [charsF_snoc, mem_push, ih]
  simp
/-- Of ascending numbers each once. -/
theorem charsF_asc (l : List Nat) (h : l.Pairwise (· ≤ ·)) : (charsF l).Pairwise (· < ·) ∧ (charsF l).getLast? = l.getLast? := by
  revert h
  refine snoc_ind (P := fun l => l.Pairwise (· ≤ ·) → (charsF l).Pairwise (· < ·) ∧ (charsF l).getLast? = l.getLast?) (fun _ => ⟨List.Pairwise.nil, rfl⟩) ?_ l
  intro l x ih h
  obtain ⟨h1, _, h2⟩ := List.pairwise_append.1 h
  obtain ⟨i1, i2⟩ := ih h1
  rw [charsF_snoc]
  unfold push
  split
  · rename_i he
    exact ⟨i1, by rw [he]; simp⟩
  · rename_i he
    refine ⟨List.pairwise_append.2 ⟨i1, List.pairwise_singleton _ _, ?_⟩, by simp⟩
    intro c hc d hd
    obtain rfl : d = x := by simpa using hd
    have hcl : c ∈ l := (charsF_mem l c).1 hc
    have hle := h2 c hcl d (by simp)
    refine Nat.lt_of_le_of_ne hle ?_
    rintro rfl
    -- the last one of l is at most x, and at least c
    refine he ?_
    rw [i2]
    cases hl : l.getLast? with
    | none => rw [List.getLast?_eq_none_iff] at hl; subst hl; cases hcl
    | some y =>
      have hy := List.mem_of_getLast? hl
      have h3 := h2 y hy c (by simp)
      have h4 : c ≤ y := by
        obtain ⟨ys, rfl⟩ := List.getLast?_eq_some_iff.1 hl
        rcases List.mem_append.1 hcl with hm | hm
        · exact (List.pairwise_append.1 h1).2.2 c hm y (by simp)
        · exact Nat.le_of_eq (by simpa using hm)
      rw [Nat.le_antisymm h3 h4]

/-- The characters at which keys' rests part. -/
def chars (ks : Ks) : List Nat := charsF (ks.map fun x => head1 x.1)
theorem srt_heads {ks : Ks} (h : Srt ks) : (ks.map fun x => head1 x.1).Pairwise (· ≤ ·) := by
  rw [List.pairwise_map]
  exact h.imp (fun hh => leL_head hh)
/-- Rests of keys are of bytes, none of them 0. -/
def Byt (ks : Ks) : Prop := ∀ x ∈ ks, ∀ a ∈ x.1, 1 ≤ a ∧ a ≤ 255
theorem byt_tails {ks : Ks} (h : Byt ks) (ch : Nat) : Byt (tails ch ks) := by
  rintro ⟨s, id⟩ hx a ha
  exact h _ (mem_tails.1 hx) a (List.mem_cons_of_mem _ ha)
theorem chars_asc {ks : Ks} (h : Srt ks) : (chars ks).Pairwise (· < ·) := (charsF_asc _ (srt_heads h)).1
theorem mem_chars {ks : Ks} {c : Nat} : c ∈ chars ks ↔ ∃ x ∈ ks, head1 x.1 = c := by
  unfold chars
  rw [charsF_mem, List.mem_map]
theorem chars_le {ks : Ks} (h : Byt ks) : ∀ c ∈ chars ks, c ≤ 255 := by
  intro c hc
  obtain ⟨⟨s, id⟩, hx, rfl⟩ := mem_chars.1 hc
  cases s with
  | nil => exact Nat.zero_le _
  | cons a s => exact (h _ hx a (by simp)).2
theorem chars_zero {ks : Ks} (h : Byt ks) : 0 ∈ chars ks ↔ firstE ks ≠ none := by
  rw [mem_chars]
  constructor
  · rintro ⟨⟨s, id⟩, hx, h0⟩ hn
    cases s with
    | nil => exact firstE_none.1 hn _ hx rfl
    | cons a s => have := (h _ hx a (by simp)).1; simp [head1] at h0; omega
  · intro hn
    cases hf : firstE ks with
    | none => exact absurd hf hn
    | some id => exact ⟨_, firstE_some hf, rfl⟩
theorem chars_kid {ks : Ks} {ch : Nat} (h1 : 1 ≤ ch) : ch ∈ chars ks ↔ tails ch ks ≠ [] := by
  rw [mem_chars]
  constructor
  · rintro ⟨⟨s, id⟩, hx, h0⟩ hn
    cases s with
    | nil => simp [head1] at h0; omega
    | cons a s =>
      simp [head1] at h0
      subst h0
      have := mem_tails.2 hx
      rw [hn] at this
      cases this
  · intro hn
    cases ht : tails ch ks with
    | nil => exact absurd ht hn
    | cons x r =>
      obtain ⟨s, id⟩ := x
      have : (s, id) ∈ tails ch ks := by rw [ht]; simp
      exact ⟨_, mem_tails.1 this, rfl⟩
theorem chars_ne {ks : Ks} (h : ks ≠ []) : 0 < (chars ks).length := by
  cases ks with
  | nil => exact absurd rfl h
  | cons x r => exact List.length_pos_of_mem (mem_chars.2 ⟨x, by simp, rfl⟩)
theorem asc_len {l : List Nat} (h : l.Pairwise (· < ·)) (N : Nat) (hb : ∀ c ∈ l, c ≤ N) : l.length ≤ N + 1 := by
  induction N generalizing l with
  | zero =>
    cases l with
    | nil => simp
    | cons a r =>
      cases r with
      | nil => simp
      | cons b r =>
        have h1 := (List.pairwise_cons.1 h).1 b (by simp)
        have h2 := hb b (by simp)
        omega
  | succ N ih =>
    revert h hb
    refine snoc_ind (P := fun l => l.Pairwise (· < ·) → (∀ c ∈ l, c ≤ N + 1) → l.length ≤ N + 1 + 1) (fun _ _ => by simp) ?_ l
    intro l x _ h hb
    obtain ⟨h1, _, h2⟩ := List.pairwise_append.1 h
    have := ih h1 (fun c hc => by have := h2 c hc x (by simp); have := hb x (by simp); omega)
    simp
    omega

/-- How many nodes are opened at most. -/
def cost : Ks → Nat
  | [] => 0
  | (s, _) :: r => s.length + cost r
theorem cost_tails_le (ch : Nat) (ks : Ks) : cost (tails ch ks) ≤ cost ks := by
  induction ks with
  | nil => exact Nat.le_refl _
  | cons x r ih =>
    obtain ⟨s, id⟩ := x
    cases s with
    | nil => simp [tails, cost]; exact ih
    | cons a s =>
      simp only [tails]
      split <;> simp [cost] <;> omega
/-- The rests that begin with none of some characters. -/
def without (done : List Nat) : Ks → Ks
  | [] => []
  | (s, id) :: r => match s with
    | [] => (s, id) :: without done r
    | a :: _ => if a ∈ done then without done r else (s, id) :: without done r
theorem cost_without (done : List Nat) (ch : Nat) (hn : ch ∉ done) (ks : Ks) (h1 : 1 ≤ ch) : cost (without (done ++ [ch]) ks) + cost (tails ch ks) + (tails ch ks).length = cost (without done ks) := by
  induction ks with
  | nil => rfl
  | cons x r ih =>
    obtain ⟨s, id⟩ := x
    cases s with
    | nil => simp [tails, without, cost]; omega
    | cons a s =>
      by_cases ha : a = ch
      · subst ha
        simp [tails, without, cost, hn]
        omega
      · by_cases hd : a ∈ done
        · simp [tails, without, hd, ha]
          omega
        · simp [tails, without, cost, hd, ha]
          omega
theorem cost_nil (ks : Ks) : cost (without [] ks) = cost ks := by
  induction ks with
  | nil => rfl
  | cons x r ih =>
    obtain ⟨s, id⟩ := x
    cases s <;> simp [without, cost, ih]
theorem without_snoc0 (done : List Nat) (ks : Ks) (hb : Byt ks) : without (done ++ [0]) ks = without done ks := by
  induction ks with
  | nil => rfl
  | cons x r ih =>
    obtain ⟨s, id⟩ := x
    have hr : Byt r := fun y hy => hb y (List.mem_cons_of_mem _ hy)
    cases s with
    | nil => simp [without, ih hr]
    | cons a s =>
      have : a ≠ 0 := by have := hb (a :: s, id) (by simp) a (by simp); omega
      simp [without, ih hr, this]
end Go.Proofs.YteoljiclmhmbnaaDoor.Da

/-
  Keys by their numbers: groups of branches; a map of groups in memory.
-/
set_option linter.unusedVariables false
set_option linter.unusedSimpArgs false
namespace Go.Proofs.YteoljiclmhmbnaaDoor.Da
open Go.RowKit Go.ChangeShapes Go.Proofs.YteoljiclmhmbnaaDoor.K Go.Proofs.YteoljiclmhmbnaaDoorW.PrintWords

/-- A text's bytes. -/
def bl (s : ByteArray) : List Nat := s.data.toList.map UInt8.toNat
theorem bl_length (s : ByteArray) : (bl s).length = s.size := by simp [bl]
theorem bl_at (s : ByteArray) {i : Nat} (h : i < s.size) : (bl s).drop i = (s.get! i).toNat :: (bl s).drop (i + 1) := by
  have hl : i < (bl s).length := by rw [bl_length]; exact h
  rw [List.drop_eq_getElem_cons hl]
  congr 1
  have : i < s.data.size := h
  simp only [bl, List.getElem_map, Array.getElem_toList, ByteArray.get!]
  rw [getElem!_pos s.data i this]
theorem bl_end (s : ByteArray) {i : Nat} (h : s.size ≤ i) : (bl s).drop i = [] := List.drop_eq_nil_of_le (by rw [bl_length]; exact h)
/-- The key, the identifier of a number. -/
def kAt (keys : List ByteArray) (j : Nat) : ByteArray := keys.getD j ByteArray.empty
def idAt (ids : List Int) (j : Nat) : Int := ids.getD j 0
theorem kAt_eq {keys : List ByteArray} {j : Nat} (h : j < keys.length) : kAt keys j = keys[j] := by simp [kAt, List.getD, h]
theorem idAt_eq {ids : List Int} {j : Nat} (h : j < ids.length) : idAt ids j = ids[j] := by simp [idAt, List.getD, h]
/-- The rests of the keys of these numbers, with their identifiers. -/
def ksOf (keys : List ByteArray) (ids : List Int) (i : Nat) (bs : List Nat) : Ks := bs.map fun j => ((bl (kAt keys j)).drop i, idAt ids j)
/-- Those of them that go on with a character. -/
def grp (keys : List ByteArray) (i ch : Nat) (bs : List Nat) : List Nat := bs.filter fun j => decide (i < (kAt keys j).size ∧ ((kAt keys j).get! i).toNat = ch)
theorem tails_ks (keys : List ByteArray) (ids : List Int) (i ch : Nat) (bs : List Nat) : tails ch (ksOf keys ids i bs) = ksOf keys ids (i + 1) (grp keys i ch bs) := by
  induction bs with
  | nil => rfl
  | cons j r ih =>
    simp only [ksOf, List.map_cons, grp, List.filter_cons] at ih ⊢
    by_cases h : i < (kAt keys j).size
    · rw [bl_at _ h]
      simp only [tails]
      by_cases h2 : ((kAt keys j).get! i).toNat = ch
      · rw [if_pos h2, if_pos (by simp [h, h2]), List.map_cons, ih]
      · rw [if_neg h2, if_neg (by simp [h2]), ih]
    · rw [bl_end _ (by omega)]
      simp only [tails]
      rw [if_neg (by simp; omega), ih]
/-- The character at which a key goes on. -/
def chAt (s : ByteArray) (i : Nat) : Nat := if i < s.size then (s.get! i).toNat else 0
theorem head_ks (s : ByteArray) (i : Nat) : head1 ((bl s).drop i) = chAt s i := by
  unfold chAt
  split
  · rename_i h; rw [bl_at _ h]; rfl
  · rename_i h; rw [bl_end _ (by omega)]; rfl
theorem grp_snoc (keys : List ByteArray) (i ch j : Nat) (bs : List Nat) : grp keys i ch (bs ++ [j]) = if i < (kAt keys j).size ∧ ((kAt keys j).get! i).toNat = ch then grp keys i ch bs ++ [j] else grp keys i ch bs := by
  unfold grp
  rw [List.filter_append]
  split <;> rename_i h
  · simp [h]
  · simp [List.filter_cons, h]

abbrev tInt : Nat := 3
abbrev tU8 : Nat := 5
/-- A slice's numbers as an element of a map. -/
def grpD (zs : List Int) : DataW Unit := if zs = [] then .nil else .slice (lits .i64 zs) []
def IntL (bs : List Nat) : List Int := bs.map fun (j : Nat) => (j : Int)
theorem IntL_length (bs : List Nat) : (IntL bs).length = bs.length := by simp [IntL]
theorem lits_inj {q : IntKind} {a b : List Int} (h : (lits (H := Unit) q a) = lits q b) : a = b := by
  unfold lits at h
  exact (List.map_inj_right (fun x y hxy => by cases hxy; rfl)).1 h
/-- What a look-up found, in words. -/
theorem found_zs {w : World} {base e : Nat} {v : Value} {zs L : List Int} (ho : w.ownsInts base e .i64 v zs) (hat : grpD L = rowDatum .i64 v zs) : zs = L := by
  unfold grpD at hat
  rcases ho.datum (H := Unit) with ⟨h1, h2⟩ | h1
  · rw [h1] at hat
    split at hat
    · rename_i h; rw [h, h2]
    · cases hat
  · rw [h1] at hat
    split at hat
    · cases hat
    · injection hat with h2
      exact (lits_inj h2).symm
/-- Block bm is a map from characters to groups of branches. -/
def Grps (base bm n : Nat) (keys : List ByteArray) (i : Nat) (bs : List Nat) (w : World) : Prop :=
  ∃ D : DataW Unit, w.ownsGroups Tryd.prog tU8 base tInt .i64 bm n D ∧ Maps.IsMap D ∧ ∀ ch : Nat, ch ≤ 255 → D.atKey (.int .u8 ch) .nil = grpD (if ch = 0 then [] else IntL (grp keys i ch bs))
theorem groups_keep {w w' : World} {k base e b n : Nat} {D : DataW Unit} (h : w.ownsGroups Tryd.prog k base e .i64 b n D) (hm : ∀ es c, w.heap[b]? = some (Obj.map es c) → w'.heap[b]? = some (Obj.map es c))
    (hr : ∀ (j : Nat) (cur : Array Value), w.heap[j]? = some (Obj.cells cur e (0, 0)) → w'.heap[j]? = some (Obj.cells cur e (0, 0))) : w'.ownsGroups Tryd.prog k base e .i64 b n D := by
  obtain ⟨es, clock, hb, F, hs, rfl, hbb, hlen, hap⟩ := h
  have keep : ∀ {u : Value} {ys : List Int}, w.ownsInts base e .i64 u ys → w'.ownsInts base e .i64 u ys := fun {u ys} ho =>
    ⟨own_keep ho.1 (fun k hk => by obtain ⟨cur, hc⟩ := own_heap ho.1 hk; rw [hr k cur hc, hc]), ho.2⟩
  have hst : ∀ x ∈ es.toList, ∀ z, rowElem (H := Unit) w base e .i64 x.val = some z → rowElem w' base e .i64 x.val = some z := by
    intro x _ z hz
    obtain ⟨zs, ho, rfl⟩ := rowElem_inv hz
    exact rowElem_mk (keep ho)
  obtain ⟨F2, hmap, _⟩ := F.stay hst
  refine ⟨es, clock, hm _ _ hb, F2, hs, by rw [hmap], hbb, ?_, hap⟩
  intro x hx zs ho
  obtain ⟨y, hy⟩ := F.reads x hx
  obtain ⟨z, hz, _⟩ := WideElems.rd_val hy
  obtain ⟨zs0, ho0, _⟩ := rowElem_inv hz
  rw [ho.unique (keep ho0)]
  exact hlen x hx zs0 ho0
theorem Grps.keep {base bm n i : Nat} {keys : List ByteArray} {bs : List Nat} {w w' : World} (h : Grps base bm n keys i bs w) (hm : ∀ es c, w.heap[bm]? = some (Obj.map es c) → w'.heap[bm]? = some (Obj.map es c))
    (hr : ∀ (j : Nat) (cur : Array Value), w.heap[j]? = some (Obj.cells cur tInt (0, 0)) → w'.heap[j]? = some (Obj.cells cur tInt (0, 0))) : Grps base bm n keys i bs w' := by
  obtain ⟨D, h1, h2, h3⟩ := h
  exact ⟨D, groups_keep h1 hm hr, h2, h3⟩
/-- A branch joins its group. -/
theorem grp_put {keys : List ByteArray} {i ch j : Nat} {bs : List Nat} {D : DataW Unit} {v' : Value} {zs : List Int} (hD : Maps.IsMap D) (hat : ∀ c : Nat, c ≤ 255 → D.atKey (.int .u8 c) .nil = grpD (if c = 0 then [] else IntL (grp keys i c bs)))
    (h1 : 1 ≤ ch) (h2 : ch ≤ 255) (hi : i < (kAt keys j).size ∧ ((kAt keys j).get! i).toNat = ch) (hz : zs = IntL (grp keys i ch bs)) {w : World} {base e : Nat} (ho : w.ownsInts base e .i64 v' (zs ++ [(j : Int)])) :
    ∀ c : Nat, c ≤ 255 → (D.put (.int .u8 ch) (rowDatum .i64 v' (zs ++ [(j : Int)]))).atKey (.int .u8 c) .nil = grpD (if c = 0 then [] else IntL (grp keys i c (bs ++ [j]))) := by
  intro c hc
  by_cases he : c = ch
  · subst he
    rw [Maps.atKey_put_same hD (by trivial), ho.datum_pos (by simp), if_neg (by omega), grp_snoc, if_pos hi, hz]
    simp [grpD, IntL]
  · rw [Maps.atKey_put_other (by intro e; injection e with _ e; omega), hat c hc, grp_snoc, if_neg (c := i < (kAt keys j).size ∧ ((kAt keys j).get! i).toNat = c) (fun h => he (h.2.symm.trans hi.2))]
/-- A branch that ends here, joins none. -/
theorem grp_skip {keys : List ByteArray} {i j : Nat} {bs : List Nat} (hj : (kAt keys j).size ≤ i) (ch : Nat) : grp keys i ch (bs ++ [j]) = grp keys i ch bs := by
  rw [grp_snoc, if_neg (by rintro ⟨h, _⟩; omega)]
end Go.Proofs.YteoljiclmhmbnaaDoor.Da
