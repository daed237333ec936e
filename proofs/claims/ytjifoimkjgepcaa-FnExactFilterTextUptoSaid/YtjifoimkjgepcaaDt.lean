/-
  A double array, plain: keys below a node; what opening a node and a whole subtree leave of the rest.
-/
import Derived.Test.YtjifoimkjgepcaaDb
set_option linter.unusedVariables false
set_option linter.unusedSimpArgs false
namespace Go.Proofs.Ytjifoimkjgepcaa.Da

/-- Keys' rests with identifiers; those behind a character; the first one that ends here. -/
abbrev Ks : Type := List (List Nat × Int)
def tails (ch : Nat) : Ks → Ks
  | [] => []
  | (s, id) :: r => match s with
    | [] => tails ch r
    | a :: s' => if a = ch then (s', id) :: tails ch r else tails ch r
def firstE : Ks → Option Int
  | [] => none
  | (s, id) :: r => match s with
    | [] => some id
    | _ :: _ => firstE r

/-- Node p of an array holds these keys; what lies below it is new. -/
inductive Tr (A : DA) (New : Nat → Prop) : Nat → Ks → Prop
  | node (p : Nat) (ks : Ks) (B : Nat) (hb : A.b p = B) (hB : 1 ≤ B)
      (leaf : ∀ id, firstE ks = some id → B < A.n ∧ A.c B = p ∧ New B ∧ A.b B = -id)
      (kid : ∀ ch, 1 ≤ ch → tails ch ks ≠ [] → B + ch < A.n ∧ A.c (B + ch) = p ∧ New (B + ch))
      (sub : ∀ ch, 1 ≤ ch → tails ch ks ≠ [] → Tr A New (B + ch) (tails ch ks))
      (none0 : firstE ks = none → ¬ (B < A.n ∧ A.c B = p))
      (none1 : ∀ ch, 1 ≤ ch → tails ch ks = [] → ¬ (B + ch < A.n ∧ A.c (B + ch) = p)) : Tr A New p ks

theorem Tr.new {A : DA} {N N' : Nat → Prop} (hN : ∀ i, N i → N' i) {p : Nat} {ks : Ks} (h : Tr A N p ks) : Tr A N' p ks := by
  induction h with
  | node p ks B hb hB leaf kid sub none0 none1 ih =>
    exact .node p ks B hb hB (fun id hid => ⟨(leaf id hid).1, (leaf id hid).2.1, hN _ (leaf id hid).2.2.1, (leaf id hid).2.2.2⟩) (fun ch h1 h2 => ⟨(kid ch h1 h2).1, (kid ch h1 h2).2.1, hN _ (kid ch h1 h2).2.2⟩) ih none0 none1

/-- What becomes of an array while nodes X are opened, and new ones below them: old cells stay; what is taken hangs below X or below what is new. -/
structure Ext (X : Nat → Prop) (A A' : DA) : Prop where
  n : A.n ≤ A'.n
  us : ∀ i, Us A i → Us A' i
  c : ∀ i, Us A i → i ≠ 0 → A'.c i = A.c i
  b : ∀ i, Us A i → ¬ X i → A'.b i = A.b i
  fresh : ∀ i, Us A' i → i ≠ 0 → Us A i ∨ (∃ q : Nat, A'.c i = q ∧ (X q ∨ ¬ Us A q) ∧ Us A' q)
theorem Ext.refl (X : Nat → Prop) (A : DA) : Ext X A A := ⟨Nat.le_refl _, fun _ h => h, fun _ _ _ => rfl, fun _ _ _ => rfl, fun _ h _ => .inl h⟩
theorem Ext.trans {X Y : Nat → Prop} {A B C : DA} (h1 : Ext X A B) (h2 : Ext Y B C) (hY : ∀ i, Y i → X i ∨ ¬ Us A i) : Ext X A C := by
  refine ⟨Nat.le_trans h1.n h2.n, fun i hi => h2.us i (h1.us i hi), fun i hi h0 => (h2.c i (h1.us i hi) h0).trans (h1.c i hi h0), fun i hi hx => ?_, fun i hi h0 => ?_⟩
  · refine (h2.b i (h1.us i hi) (fun hy => ?_)).trans (h1.b i hi hx)
    rcases hY i hy with h | h
    · exact hx h
    · exact h hi
  · rcases h2.fresh i hi h0 with h | ⟨q, hq, hor, hu⟩
    · rcases h1.fresh i h h0 with h' | ⟨q, hq, hor, hu⟩
      · exact .inl h'
      · exact .inr ⟨q, (h2.c i h h0).trans hq, hor, h2.us q hu⟩
    · refine .inr ⟨q, hq, ?_, hu⟩
      rcases hor with h | h
      · exact hY q h
      · exact .inr fun h' => h (h1.us q h')
theorem Ext.mono {X Y : Nat → Prop} {A B : DA} (h : Ext X A B) (hX : ∀ i, X i → Y i) : Ext Y A B :=
  ⟨h.n, h.us, h.c, fun i hi hy => h.b i hi (fun hx => hy (hX i hx)), fun i hi h0 => (h.fresh i hi h0).imp id (fun ⟨q, e, o, u⟩ => ⟨q, e, o.imp (hX q) id, u⟩)⟩

/-- A subtree stays. S: the cells that were used when its root was opened, and are none below it. -/
theorem Tr.stay {A A' : DA} {N X : Nat → Prop} (hE : Ext X A A') {p : Nat} {ks : Ks} (h : Tr A N p ks) (hp : Us A p) (hpX : ¬ X p) (hN : ∀ i, N i → ¬ X i ∧ i ≠ 0) : Tr A' N p ks := by
  induction h with
  | node p ks B hb hB leaf kid sub none0 none1 ih =>
    have used : ∀ i, i < A.n → A.c i = (p : Int) → Us A i := fun i hi hc => ⟨hi, .inr (by omega)⟩
    have no : ∀ i, i ≠ 0 → ¬ (i < A.n ∧ A.c i = p) → ¬ (i < A'.n ∧ A'.c i = p) := by
      rintro i h0 hn ⟨h1, h2⟩
      have hu' : Us A' i := ⟨h1, .inr (by omega)⟩
      rcases hE.fresh i hu' h0 with hu | ⟨q, hq, hor, _⟩
      · exact hn ⟨hu.1, (hE.c i hu h0).symm.trans h2⟩
      · have : q = p := by omega
        subst this
        rcases hor with h | h
        · exact hpX h
        · exact h hp
    refine .node p ks B ((hE.b p hp hpX).trans hb) hB ?_ ?_ ?_ ?_ ?_
    · intro id hid
      obtain ⟨h1, h2, h3, h4⟩ := leaf id hid
      have hu := used _ h1 h2
      exact ⟨Nat.lt_of_lt_of_le h1 hE.n, (hE.c _ hu (hN _ h3).2).trans h2, h3, (hE.b _ hu (hN _ h3).1).trans h4⟩
    · intro ch h1 h2
      obtain ⟨g1, g2, g3⟩ := kid ch h1 h2
      exact ⟨Nat.lt_of_lt_of_le g1 hE.n, (hE.c _ (used _ g1 g2) (hN _ g3).2).trans g2, g3⟩
    · intro ch h1 h2
      obtain ⟨g1, g2, g3⟩ := kid ch h1 h2
      exact ih ch h1 h2 (used _ g1 g2) (hN _ g3).1
    · intro h0
      exact no _ (by omega) (none0 h0)
    · intro ch h1 h2
      exact no _ (by omega) (none1 ch h1 h2)

/-- A node is opened at a base: its characters' cells are taken. -/
structure Opened (A A' : DA) (p B : Nat) (chars : List Nat) : Prop where
  ext : Ext (fun i => i = p) A A'
  base : A'.b p = B
  pos : 1 ≤ B
  kids : ∀ ch ∈ chars, B + ch < A'.n ∧ A'.c (B + ch) = p ∧ ¬ Us A (B + ch) ∧ A'.b (B + ch) < 0
  only : ∀ i, Us A' i → Us A i ∨ ∃ ch ∈ chars, i = B + ch

/-- A base is laid into a used cell. -/
def setB (A : DA) (i : Nat) (v : Int) : DA := { A with b := upd A.b i v }
theorem setB_fr (A : DA) (i : Nat) (v : Int) (j : Nat) : Fr (setB A i v) j ↔ Fr A j := Iff.rfl
theorem setB_us (A : DA) (i : Nat) (v : Int) (j : Nat) : Us (setB A i v) j ↔ Us A j := Iff.rfl
theorem setB_inv {A : DA} {M i : Nat} {v : Int} (h : Inv A M) (hu : Us A i) (h0 : i ≠ 0) (hv : -2147483647 ≤ v ∧ v ≤ 2147483647) : Inv (setB A i v) M := by
  refine { h with b0 := ?_, ring := ?_, rb := ?_ }
  · show upd A.b i v 0 = 1
    rw [upd_ne _ _ (fun e => h0 e.symm)]; exact h.b0
  · intro p q hpq
    have hpq' : Nx A p q := hpq
    have hq : q ≠ i := by rintro rfl; exact fr_not_us hpq'.2.1 hu
    show A.c p = _ ∧ upd A.b i v q = _
    rw [upd_ne _ _ hq]
    exact h.ring _ _ hpq'
  · intro j hj
    show -2147483647 ≤ upd A.b i v j ∧ upd A.b i v j ≤ 2147483647
    unfold upd
    split
    · exact hv
    · exact h.rb j hj
theorem setB_ext {A : DA} {i : Nat} {v : Int} : Ext (fun j => j = i) A (setB A i v) :=
  ⟨Nat.le_refl _, fun _ h => h, fun _ _ _ => rfl, fun j _ hj => upd_ne _ _ hj, fun _ h _ => .inl h⟩
/-- The program's setBase at a used cell. -/
def setBase (A : DA) (p : Nat) (v : Int) : DA := if p = 0 then A else setB A p v

/-- Marking: some characters' cells are taken, the others still to be. -/
structure Mk (A A' : DA) (p B : Nat) (done rest : List Nat) (M : Nat) : Prop where
  inv : Inv A' M
  op : Opened A A' p B done
  rest : Fits A' B rest
  lt : B < A'.n
theorem mk_start {A : DA} {M p B : Nat} {chars : List Nat} (h : Inv A M) (hp : Us A p) (h0 : p = 0 → B = 1) (hB : 1 ≤ B) (hlt : B < A.n) (hf : Fits A B chars) : Mk A (setBase A p B) p B [] chars M := by
  unfold setBase
  have hsz := h.size
  split
  · rename_i hp0
    subst hp0
    exact ⟨h, ⟨Ext.refl _ _, by rw [h.b0, h0 rfl]; rfl, hB, by simp, fun i hi => .inl hi⟩, hf, hlt⟩
  · rename_i hp0
    exact ⟨setB_inv h hp hp0 (by omega), ⟨setB_ext, upd_same _ _ _, hB, by simp, fun i hi => .inl hi⟩, hf, hlt⟩
theorem mk_grow {A A' : DA} {p B : Nat} {done rest : List Nat} {M : Nat} (h : Mk A A' p B done rest M) (hM : A'.n ≤ M + 3) (hp : Us A p) : Mk A (grown A') p B done rest M := by
  have hi := h.inv
  have hn : (grown A').n = 2 * A'.n := rfl
  refine ⟨grown_inv hi hM, ⟨?_, ?_, h.op.pos, ?_, ?_⟩, ?_, by have := h.lt; omega⟩
  · have hE : Ext (fun i => i = p) A' (grown A') := ⟨by omega, fun i hu => (grown_us hi i).2 hu, fun i hu _ => (grown_old hi hu).1, fun i hu _ => (grown_old hi hu).2, fun i hu _ => .inl ((grown_us hi i).1 hu)⟩
    exact h.op.ext.trans hE (fun i hh => .inl hh)
  · rw [(grown_old hi (h.op.ext.us p hp)).2]; exact h.op.base
  · intro ch hch
    obtain ⟨h1, h2, h3, h4⟩ := h.op.kids ch hch
    have hu : Us A' (B + ch) := ⟨h1, .inr (by omega)⟩
    rw [(grown_old hi hu).1, (grown_old hi hu).2]
    exact ⟨by omega, h2, h3, h4⟩
  · intro i hu
    exact h.op.only i ((grown_us hi i).1 hu)
  · intro ch hch
    rcases h.rest ch hch with h1 | h1
    · by_cases h2 : B + ch < 2 * A'.n
      · exact .inr ((grown_fr hi _).2 (.inr ⟨h1, h2⟩))
      · exact .inl (by omega)
    · exact .inr ((grown_fr hi _).2 (.inl h1))
theorem mk_take {A A' : DA} {p B ch : Nat} {done rest : List Nat} {M : Nat} (h : Mk A A' p B done (ch :: rest) M) (hp : Us A p) (hlt : B + ch < A'.n) (hne : A'.b (B + ch) ≠ A'.c (B + ch)) (hr : ch ∉ rest) (hM : B + ch ≤ M) (hpM : p ≤ 268435456) :
    Mk A (take A' (B + ch) p) p B (done ++ [ch]) rest M := by
  have hi := h.inv
  have hf : Fr A' (B + ch) := by
    rcases h.rest ch (List.mem_cons_self ..) with h1 | h1
    · omega
    · exact h1
  have hv : (0 : Int) ≤ p := by omega
  have hup : Us A' p := h.op.ext.us p hp
  have hpq : p ≠ B + ch := by rintro e; rw [← e] at hf; exact fr_not_us hf hup
  have hpos := h.op.pos
  have hn : (take A' (B + ch) p).n = A'.n := rfl
  have hE : Ext (fun i => i = p) A' (take A' (B + ch) p) := by
    refine ⟨Nat.le_refl _, fun i hu => (take_us hi hf hne hv i).2 (.inl hu), fun i hu h0 => (take_old hi hf hu).1 h0, fun i hu _ => (take_old hi hf hu).2, fun i hu h0 => ?_⟩
    rcases (take_us hi hf hne hv i).1 hu with h1 | rfl
    · exact .inl h1
    · exact .inr ⟨p, (take_self hi hf hne).1, .inl rfl, (take_us hi hf hne hv p).2 (.inl hup)⟩
  refine ⟨take_inv hi hf hne hv (by omega) hM, ⟨h.op.ext.trans hE (fun i hh => .inl hh), ?_, hpos, ?_, ?_⟩, ?_, h.lt⟩
  · rw [(take_old hi hf hup).2]; exact h.op.base
  · intro c hc
    rcases List.mem_append.1 hc with hc | hc
    · obtain ⟨h1, h2, h3, h4⟩ := h.op.kids c hc
      have hu : Us A' (B + c) := ⟨h1, .inr (by omega)⟩
      rw [(take_old hi hf hu).1 (by omega), (take_old hi hf hu).2]
      exact ⟨h1, h2, h3, h4⟩
    · obtain rfl : c = ch := by simpa using hc
      refine ⟨hlt, (take_self hi hf hne).1, fun hu => fr_not_us hf (h.op.ext.us _ hu), (take_self hi hf hne).2⟩
  · intro i hu
    rcases (take_us hi hf hne hv i).1 hu with h1 | rfl
    · rcases h.op.only i h1 with h2 | ⟨c, hc, h2⟩
      · exact .inl h2
      · exact .inr ⟨c, List.mem_append_left _ hc, h2⟩
    · exact .inr ⟨ch, by simp, rfl⟩
  · intro c hc
    rcases h.rest c (List.mem_cons_of_mem _ hc) with h1 | h1
    · exact .inl h1
    · refine .inr ((take_fr hi hf hne hv _).2 ⟨h1, ?_⟩)
      intro e
      have : c = ch := by omega
      exact hr (this ▸ hc)

/-- The children of a node that was opened: some are done. -/
structure Kids (A1 A' : DA) (B : Nat) (ks : Ks) (done : List Nat) : Prop where
  ext : Ext (fun i => ∃ ch ∈ done, i = B + ch) A1 A'
  leaf : 0 ∈ done → ∀ id, firstE ks = some id → A'.b B = -id
  sub : ∀ ch ∈ done, 1 ≤ ch → Tr A' (fun i => ¬ Us A1 i ∧ i ≠ 0) (B + ch) (tails ch ks)
theorem kids_start (A1 : DA) (B : Nat) (ks : Ks) : Kids A1 A1 B ks [] := ⟨Ext.refl _ _, by simp, by simp⟩
theorem kids_leaf {A1 A' : DA} {B : Nat} {ks : Ks} {done : List Nat} {id : Int} (h : Kids A1 A' B ks done) (hB : 1 ≤ B) (hu : Us A1 B) (hid : firstE ks = some id) (hd : ∀ ch ∈ done, Us A1 (B + ch)) (hn : 0 ∉ done) : Kids A1 (setB A' B (-id)) B ks (done ++ [0]) := by
  have hE : Ext (fun j => j = B) A' (setB A' B (-id)) := setB_ext
  refine ⟨?_, ?_, ?_⟩
  · refine (h.ext.mono (Y := fun i => ∃ ch ∈ done ++ [0], i = B + ch) ?_).trans hE ?_
    · rintro i ⟨ch, h1, h2⟩; exact ⟨ch, List.mem_append_left _ h1, h2⟩
    · rintro i rfl; exact .inl ⟨0, by simp, rfl⟩
  · intro _ id' hid'
    rw [hid] at hid'
    cases hid'
    exact upd_same _ _ _
  · intro ch hch h1
    rcases List.mem_append.1 hch with hch | hch
    · refine (h.sub ch hch h1).stay hE (h.ext.us _ (hd ch hch)) (by omega) ?_
      rintro i ⟨h2, h3⟩
      exact ⟨by rintro rfl; exact h2 hu, h3⟩
    · simp at hch; omega
theorem kids_sub {A1 A' A2 : DA} {B ch : Nat} {ks : Ks} {done : List Nat} (h : Kids A1 A' B ks done) (hB : 1 ≤ B) (hu : Us A1 (B + ch)) (h1 : 1 ≤ ch) (hd : ∀ ch ∈ done, Us A1 (B + ch)) (hn : ch ∉ done)
    (hE : Ext (fun i => i = B + ch) A' A2) (hT : Tr A2 (fun i => ¬ Us A' i ∧ i ≠ 0) (B + ch) (tails ch ks)) : Kids A1 A2 B ks (done ++ [ch]) := by
  refine ⟨?_, ?_, ?_⟩
  · refine (h.ext.mono (Y := fun i => ∃ c ∈ done ++ [ch], i = B + c) ?_).trans hE ?_
    · rintro i ⟨c, h1, h2⟩; exact ⟨c, List.mem_append_left _ h1, h2⟩
    · rintro i rfl; exact .inl ⟨ch, by simp, rfl⟩
  · intro h0 id hid
    rcases List.mem_append.1 h0 with h0 | h0
    · rw [hE.b B (h.ext.us _ (hd 0 h0)) (by omega)]
      exact h.leaf h0 id hid
    · simp at h0; omega
  · intro c hc hc1
    rcases List.mem_append.1 hc with hc | hc
    · have hne : c ≠ ch := fun e => hn (e ▸ hc)
      refine (h.sub c hc hc1).stay hE (h.ext.us _ (hd c hc)) (by omega) ?_
      rintro i ⟨h2, h3⟩
      exact ⟨by rintro rfl; exact h2 hu, h3⟩
    · obtain rfl : c = ch := by simpa using hc
      exact hT.new (fun i ⟨h2, h3⟩ => ⟨fun h4 => h2 (h.ext.us i h4), h3⟩)
/-- Each used cell hangs below a used one. -/
def Par (A : DA) : Prop := ∀ i, Us A i → i ≠ 0 → ∃ q : Nat, A.c i = q ∧ Us A q
theorem Par.ext {X : Nat → Prop} {A A' : DA} (h : Par A) (hE : Ext X A A') : Par A' := by
  intro i hi h0
  rcases hE.fresh i hi h0 with hu | ⟨q, hq, _, hu⟩
  · obtain ⟨q, hq, hu'⟩ := h i hu h0
    exact ⟨q, (hE.c i hu h0).trans hq, hE.us q hu'⟩
  · exact ⟨q, hq, hu⟩
/-- A used node without children. -/
def Bare (A : DA) (p : Nat) : Prop := Us A p ∧ ∀ i, Us A i → i ≠ 0 → A.c i ≠ p
theorem kids_bare {A A1 A' : DA} {p B ch : Nat} {ks : Ks} {chars done : List Nat} (ho : Opened A A1 p B chars) (hk : Kids A1 A' B ks done) (hp : Us A p) (hpar : Par A) (hch : ch ∈ chars) (hd : ∀ c ∈ done, c ∈ chars) (hn : ch ∉ done) : Bare A' (B + ch) := by
  have u1 : ∀ ch ∈ chars, Us A1 (B + ch) := fun ch hch => ⟨(ho.kids ch hch).1, .inr (by have := (ho.kids ch hch).2.1; omega)⟩
  have hu := u1 ch hch
  have hnu := (ho.kids ch hch).2.2.1
  refine ⟨hk.ext.us _ hu, fun i hi h0 he => ?_⟩
  rcases hk.ext.fresh i hi h0 with h1 | ⟨q, hq, hor, _⟩
  · have hc := (hk.ext.c i h1 h0).symm.trans he
    rcases ho.only i h1 with h2 | ⟨c, hc2, h2⟩
    · obtain ⟨q, hq, huq⟩ := hpar i h2 h0
      have := (ho.ext.c i h2 h0).symm.trans hc
      have hqe : q = B + ch := by omega
      exact hnu (hqe ▸ huq)
    · have := (ho.kids c hc2).2.1
      rw [← h2] at this
      have hpe : p = B + ch := by omega
      exact hnu (hpe ▸ hp)
  · have hqe : q = B + ch := by omega
    rw [hqe] at hor
    rcases hor with ⟨c, hc, h⟩ | h
    · have : c = ch := by omega
      exact hn (this ▸ hc)
    · exact h hu
/-- All are done. -/
theorem kids_all {A A1 A' : DA} {p B : Nat} {ks : Ks} {chars : List Nat} (ho : Opened A A1 p B chars) (hk : Kids A1 A' B ks chars) (hb : Bare A p)
    (hc0 : 0 ∈ chars ↔ firstE ks ≠ none) (hc1 : ∀ ch, 1 ≤ ch → (ch ∈ chars ↔ tails ch ks ≠ [])) :
    Ext (fun i => i = p) A A' ∧ Tr A' (fun i => ¬ Us A i ∧ i ≠ 0) p ks := by
  have hpos := ho.pos
  have hp := hb.1
  have u1 : ∀ ch ∈ chars, Us A1 (B + ch) := fun ch hch => ⟨(ho.kids ch hch).1, .inr (by have := (ho.kids ch hch).2.1; omega)⟩
  have hp1 : Us A1 p := ho.ext.us p hp
  have hpk : ∀ ch ∈ chars, p ≠ B + ch := fun ch hch e => (ho.kids ch hch).2.2.1 (e ▸ hp)
  have cell : ∀ ch ∈ chars, B + ch < A'.n ∧ A'.c (B + ch) = p ∧ (¬ Us A (B + ch) ∧ B + ch ≠ 0) := fun ch hch =>
    ⟨Nat.lt_of_lt_of_le (ho.kids ch hch).1 hk.ext.n, (hk.ext.c _ (u1 ch hch) (by omega)).trans (ho.kids ch hch).2.1, (ho.kids ch hch).2.2.1, by omega⟩
  have no : ∀ i, 1 ≤ i → (∀ ch ∈ chars, i ≠ B + ch) → ¬ (i < A'.n ∧ A'.c i = p) := by
    rintro i h0 hn ⟨h1, h2⟩
    have hu' : Us A' i := ⟨h1, .inr (by omega)⟩
    rcases hk.ext.fresh i hu' (by omega) with hu | ⟨q, hq, hor, _⟩
    · have hc1' := (hk.ext.c i hu (by omega)).symm.trans h2
      rcases ho.only i hu with h3 | ⟨ch, hch, h3⟩
      · exact hb.2 i h3 (by omega) ((ho.ext.c i h3 (by omega)).symm.trans hc1')
      · exact hn ch hch h3
    · have : q = p := by omega
      subst this
      rcases hor with ⟨ch, hch, h⟩ | h
      · exact hpk ch hch h
      · exact h hp1
  refine ⟨ho.ext.trans hk.ext ?_, ?_⟩
  · rintro i ⟨ch, hch, rfl⟩
    exact .inr (ho.kids ch hch).2.2.1
  · refine .node p ks B ((hk.ext.b p hp1 (by rintro ⟨ch, hch, e⟩; exact hpk ch hch e)).trans ho.base) hpos ?_ ?_ ?_ ?_ ?_
    · intro id hid
      have h0 : 0 ∈ chars := hc0.2 (by rw [hid]; simp)
      obtain ⟨g1, g2, g3⟩ := cell 0 h0
      exact ⟨g1, g2, g3, hk.leaf h0 id hid⟩
    · intro ch h1 h2
      exact cell ch ((hc1 ch h1).2 h2)
    · intro ch h1 h2
      refine (hk.sub ch ((hc1 ch h1).2 h2) h1).new ?_
      rintro i ⟨h3, h4⟩
      exact ⟨fun h5 => h3 (ho.ext.us i h5), h4⟩
    · intro hno
      refine no B hpos (fun ch hch e => ?_)
      have : ch = 0 := by omega
      subst this
      exact hc0.1 hch hno
    · intro ch h1 h2
      refine no (B + ch) (by omega) (fun c hc e => ?_)
      have : c = ch := by omega
      subst this
      exact (hc1 c h1).1 hc h2
end Go.Proofs.Ytjifoimkjgepcaa.Da
