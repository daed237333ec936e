/-
  Small laws of memory: an append of one element into a row of the call's own, whatever the world before it; blocks that stay.
-/
import Derived.Test.YtjifoimkjgepcaaWWords
import Derived.Lib.Hide
import Derived.WalkSpells
import Derived.WalkLawsBesides
set_option linter.unusedVariables false
set_option linter.unusedSimpArgs false
namespace Go.Proofs.Ytjifoimkjgepcaa.K
open Go.RowKit Go.Proofs.YtjifoimkjgepcaaW.PrintWords

theorem ba_ext {a b : ByteArray} (h : a.data = b.data) : a = b := by cases a; cases b; simp at h; rw [h]
instance instDecEqBA : DecidableEq ByteArray := fun a b => if h : a.data = b.data then isTrue (ba_ext h) else isFalse (by rintro rfl; exact h rfl)
theorem ba_toList {a b : ByteArray} (h : a.toList = b.toList) : a = b := by
  have := congrArg (fun l => (⟨l.toArray⟩ : ByteArray)) h
  exact ba_ext (by simpa [ByteArray.toList_eq] using this)

/-- Whether a list has something. -/
def memB {α : Type} [DecidableEq α] (x : α) (xs : List α) : Bool := xs.any fun y => decide (y = x)
theorem memB_iff {α : Type} [DecidableEq α] {x : α} {xs : List α} : memB x xs = true ↔ x ∈ xs := by simp [memB]
theorem memB_true {α : Type} [DecidableEq α] {x : α} {xs : List α} (h : x ∈ xs) : memB x xs = true := memB_iff.2 h
theorem memB_false {α : Type} [DecidableEq α] {x : α} {xs : List α} (h : x ∉ xs) : memB x xs = false := by
  cases hb : memB x xs
  · rfl
  · exact absurd (memB_iff.1 hb) h

theorem lt_of_heap {w : World} {a : Nat} {o : Obj} (h : w.heap[a]? = some o) : a < w.heap.size := (Array.getElem?_eq_some_iff.1 h).1
theorem typ_ne {w : World} {a b : Nat} {c d : Array Value} {s t : Nat} {f g : Nat × Nat} (h : w.heap[a]? = some (.cells c s f)) (k : w.heap[b]? = some (.cells d t g)) (hn : s ≠ t) : a ≠ b := by
  rintro rfl
  rw [h] at k
  injection k with k
  injection k with _ k
  exact hn k
theorem own_heap {w : World} {base e size n : Nat} {v : Value} {xs : List Value} (h : w.ownsRow base e size v n xs) {g : Nat} (hg : v.ownBlock = some g) : ∃ cur, w.heap[g]? = some (.cells cur e (0, 0)) := by
  rcases h.2 with ⟨rfl, _⟩ | ⟨g', cap, cur, rfl, _, hh, _⟩
  · simp [Value.ownBlock] at hg
  · simp [Value.ownBlock] at hg
    subst hg
    exact ⟨cur, hh⟩
theorem own_keep {w w1 : World} {base e size n : Nat} {v : Value} {xs : List Value} (h : w.ownsRow base e size v n xs) (hm : ∀ k, v.ownBlock = some k → w1.heap[k]? = w.heap[k]?) : w1.ownsRow base e size v n xs := by
  obtain ⟨h1, h2⟩ := h
  refine ⟨h1, ?_⟩
  rcases h2 with h2 | ⟨g, cap, cur, rfl, hg, hh, r⟩
  · exact .inl h2
  · exact .inr ⟨g, cap, cur, rfl, hg, (hm g (by simp [Value.ownBlock])).trans hh, r⟩
theorem cell_of_heap {w : World} {b : Nat} {c : Array Value} {t : Nat} {f : Nat × Nat} (h : w.heap[b]? = some (.cells c t f)) (j : Nat) : w.cell? ⟨b, j, none⟩ = c[j]? := by
  simp [World.cell?, h]
theorem frozen_of_heap {w : World} {b : Nat} {c : Array Value} {t : Nat} (h : w.heap[b]? = some (.cells c t (0, 0))) (j : Nat) : w.frozen? ⟨b, j, none⟩ = false := by
  simp [World.frozen?, h]
theorem heap_new (w : World) (o : Obj) : (w.alloc o).heap[w.heap.size]? = some o := heap_alloc_new w o
theorem heap_old {w : World} {k : Nat} {x : Obj} (h : w.heap[k]? = some x) (o : Obj) : (w.alloc o).heap[k]? = some x := by
  rw [heap_alloc_old w o (lt_of_heap h)]; exact h
theorem heap_old' (w : World) (o : Obj) {k : Nat} (h : k < w.heap.size) : (w.alloc o).heap[k]? = w.heap[k]? := heap_alloc_old w o h
theorem heap_set {w : World} {b : Nat} {c : Array Value} {t : Nat} {f : Nat × Nat} (h : w.heap[b]? = some (.cells c t f)) (j : Nat) (v : Value) : (w.setCell ⟨b, j, none⟩ v).heap[b]? = some (.cells (c.setIfInBounds j v) t f) := by
  simp [World.setCell, Array.getElem?_modify, h]
theorem heap_set_ne {w : World} {b k : Nat} (hn : k ≠ b) (j : Nat) (v : Value) : (w.setCell ⟨b, j, none⟩ v).heap[k]? = w.heap[k]? := Below.heap_setCell w ⟨b, j, none⟩ v k hn
theorem size_set (w : World) (a : Addr) (v : Value) : (w.setCell a v).heap.size = w.heap.size := by simp [World.setCell]
theorem size_alloc (w : World) (o : Obj) : (w.alloc o).heap.size = w.heap.size + 1 := by simp

/-- Blocks laid one behind the other. -/
def allocs (w : World) : List Obj → World
  | [] => w
  | o :: r => allocs (w.alloc o) r
theorem allocs_size (w : World) : ∀ os, (allocs w os).heap.size = w.heap.size + os.length := by
  intro os
  induction os generalizing w with
  | nil => rfl
  | cons o r ih => rw [allocs, ih, size_alloc, List.length_cons]; omega
theorem allocs_old (w : World) {k : Nat} (h : k < w.heap.size) : ∀ os, (allocs w os).heap[k]? = w.heap[k]? := by
  intro os
  induction os generalizing w with
  | nil => rfl
  | cons o r ih => rw [allocs, ih _ (by rw [size_alloc]; omega), heap_old' _ _ h]
theorem allocs_new (w : World) : ∀ (os : List Obj) (i : Nat) (o : Obj), os[i]? = some o → (allocs w os).heap[w.heap.size + i]? = some o := by
  intro os
  induction os generalizing w with
  | nil => intro i o h; simp at h
  | cons o r ih =>
    intro i o' h
    rw [allocs]
    cases i with
    | zero =>
      simp at h
      subst h
      rw [Nat.add_zero, allocs_old _ (by rw [size_alloc]; omega), heap_new]
    | succ i =>
      have := ih (w.alloc o) i o' (by simpa using h)
      rw [size_alloc] at this
      rw [show w.heap.size + (i + 1) = w.heap.size + 1 + i by omega]
      exact this
theorem allocs_below (w : World) (os : List Obj) : Below w.heap.size w (allocs w os) := by
  induction os generalizing w with
  | nil => exact Below.refl _ _
  | cons o r ih => exact ((Below.refl _ _).alloc (Nat.le_refl _) o).trans ((ih _).mono (by rw [size_alloc]; omega))
/-- A block that holds a row is read as the row. -/
theorem C_of_block {α : Type} {d : Kd α} {w : World} {b : Nat} {cs : List Value} {xs : List α} {e : Nat} {fr : Nat × Nat} (h : w.heap[b]? = some (.cells cs.toArray e fr)) (hr : Reps (d.K w) d.sz xs cs) (hl : xs.length ≤ 9223372036854775807) :
    d.C w (some ⟨b, 0, none⟩) xs.length xs := by
  refine ⟨rfl, hl, fun _ => ⟨_, rfl, fun j p hp => ⟨(cs.drop (j * d.sz)).take d.sz, ?_, hr.2 j p hp, ?_⟩⟩⟩
  · have hj := (List.getElem?_eq_some_iff.1 hp).1
    have h1 : j * d.sz + d.sz ≤ cs.length := by rw [hr.1, ← Nat.succ_mul]; exact Nat.mul_le_mul_right _ hj
    rw [List.length_take, List.length_drop]; omega
  · intro i u hu
    rw [add_plain, cell_of_heap h]
    rw [List.getElem?_take] at hu
    split at hu
    · rw [List.getElem?_drop] at hu
      simpa using hu
    · cases hu
theorem C_of_arr {α : Type} {d : Kd α} {w : World} {b : Nat} {cs : Array Value} {xs : List α} {e : Nat} {fr : Nat × Nat} (h : w.heap[b]? = some (.cells cs e fr)) (hr : Reps (d.K w) d.sz xs cs.toList) (hl : xs.length ≤ 9223372036854775807) :
    d.C w (some ⟨b, 0, none⟩) xs.length xs := C_of_block (cs := cs.toList) (by rw [h]) hr hl
theorem reps_strs (w : World) (xs : List ByteArray) : Reps (Kd.string.K w) Kd.string.sz xs (xs.map Value.string) := Kd.reps_scalar xs
theorem reps_bools (w : World) (xs : List Bool) : Reps (Kd.bool.K w) Kd.bool.sz xs (xs.map Value.bool) := Kd.reps_scalar xs
theorem reps_ints (w : World) (k : IntKind) (xs : List Int) : Reps ((Kd.int k).K w) (Kd.int k).sz xs (xs.map (Value.int k)) := Kd.reps_scalar xs
/-- Rows in line. -/
theorem reps_cons {α : Type} {R : α → List Value → Prop} {size : Nat} {p : α} {ps : List α} {c cs : List Value} (hp : R p c) (hc : c.length = size) (h : Reps R size ps cs) : Reps R size (p :: ps) (c ++ cs) := by
  refine ⟨by rw [List.length_append, h.1, hc, List.length_cons, Nat.add_mul, Nat.one_mul, Nat.add_comm], fun j q hq => ?_⟩
  cases j with
  | zero =>
    simp at hq
    subst hq
    rw [Nat.zero_mul, List.drop_zero, List.take_left' hc]
    exact hp
  | succ j =>
    have h2 := h.2 j q (by simpa using hq)
    rw [Nat.succ_mul, Nat.add_comm, ← hc, ← List.drop_drop, List.drop_left, hc]
    exact h2

theorem cell_new0 (w : World) (y : Value) (e : TypeId) : (w.alloc (.cells #[y] e)).cell? ⟨w.heap.size, 0, none⟩ = some y := by
  rw [cell_of_heap (heap_new w _)]; rfl
theorem cell_new1 (w : World) (o : Obj) (y : Value) (e : TypeId) : ((w.alloc o).alloc (.cells #[y] e)).cell? ⟨w.heap.size + 1, 0, none⟩ = some y := by
  have h := cell_new0 (w.alloc o) y e
  rwa [size_alloc] at h

section
variable {P : Program} {ops : Array Oper} {rest : List Oper} {o : Oper} {a : Act} {Q : Exit → Act → World → Prop}
/-- append(v, y) into a row of the call's own, from base on; the new element lies at block g. -/
theorem app1 {w0 W : World} (base : Nat) (hgd : o.guard = none) (s x : Operand) (t e : TypeId) (z : Value) (bytes : Nat)
    (ho : o.op = .call { callee := .builtin .append, args := #[s, x], argTypes := #[t, t] })
    (ht : P.underlying t = some (.slice e)) (hinfo : (P.info? e).map (fun i => (i.zero, i.size, i.bytes)) = some (some z, 1, bytes)) (hz : z.cells.size = 1) (hb0 : 0 < bytes)
    (v : Value) (xs : List Value) (y : Value) (g : Nat) (hs : a.eval s = v) (hx : a.eval x = .slice (some ⟨g, 0, none⟩) 1 1) (hg : W.cell? ⟨g, 0, none⟩ = some y) (h1 : y.oneCell' = true)
    (HO : W.ownsRow base e 1 v xs.length xs) (HB : Below base w0 W) (hbase : base ≤ W.heap.size) (hl : (xs.length + 1) * bytes ≤ 140737488355328)
    (h : ∀ v1 w1, w1.ownsRow base e 1 v1 (xs ++ [y]).length (xs ++ [y]) → Below base w0 w1 → W.grownBy w1 v.ownBlock → (v1.ownBlock = v.ownBlock ∨ ∃ b, v1.ownBlock = some b ∧ W.heap.size ≤ b) → wpList P ops Q rest (a.put o.dst v1) w1) :
    wpList P ops Q (o :: rest) a W := by
  obtain ⟨i0, hi, hzz⟩ := Option.map_eq_some_iff.1 hinfo
  simp only [Prod.mk.injEq] at hzz
  obtain ⟨hz0, hz1, hz2⟩ := hzz
  have hlen : xs.length + 1 ≤ 140737488355328 := Nat.le_trans (Nat.le_mul_of_pos_right _ hb0) hl
  refine wpList_append_own_at W hgd s x t ho base e i0 z 1 bytes ht hi hz0 hz1 hz2 hz (by omega) v xs.length xs hs HO ⟨g, 0, none⟩ 1 1 [y] hx rfl
    ?_ (by simpa using h1) (by simp only [maxLen]; omega) hl (by omega) ?_
  · intro j u hj
    cases j with
    | zero => simp at hj; subst hj; simpa [Addr.add] using hg
    | succ j => simp at hj
  intro v1 w1 hown hgr _ hat
  refine h v1 w1 (by simpa using hown) (HB.grown hgr hbase (own_base HO)) hgr ?_
  rcases hat with hat | hat
  · exact .inl hat
  · exact .inr ⟨_, hat, Nat.le_refl _⟩

/-- append(v, p) into a row of kind d, from base on; p's cells cs lie at block g. -/
theorem kapp {α : Type} (d : Kd α) {w0 W : World} (base : Nat) (hgd : o.guard = none) (s x : Operand) (t e : TypeId) (z : Value) (bytes : Nat)
    (ho : o.op = .call { callee := .builtin .append, args := #[s, x], argTypes := #[t, t] })
    (ht : P.underlying t = some (.slice e)) (hinfo : (P.info? e).map (fun i => (i.zero, i.size, i.bytes)) = some (some z, d.sz, bytes)) (hz : z.cells.size = d.sz) (hs0 : 0 < d.sz) (hb0 : 0 < bytes)
    (v : Value) (xs : List α) (p : α) (cs : List Value) (ok okp : Nat → Prop) (g : Nat) (hs : a.eval s = v) (hx : a.eval x = .slice (some ⟨g, 0, none⟩) 1 1) (hg : ∀ j u, cs[j]? = some u → W.cell? ⟨g, j, none⟩ = some u)
    (hp : d.M W base okp p cs) (hokp : ∀ k, okp k → ok k ∧ some k ≠ v.ownBlock) (hfresh : ∀ k, W.heap.size ≤ k → ok k)
    (HO : d.R e W base ok v xs) (HB : Below base w0 W) (hbase : base ≤ W.heap.size) (hl : (xs.length + 1) * bytes ≤ 140737488355328)
    (h : ∀ v1 w1, d.R e w1 base ok v1 (xs ++ [p]) → Below base w0 w1 → W.grownBy w1 v.ownBlock → (v1.ownBlock = v.ownBlock ∨ ∃ b, v1.ownBlock = some b ∧ W.heap.size ≤ b) → wpList P ops Q rest (a.put o.dst v1) w1) :
    wpList P ops Q (o :: rest) a W := by
  obtain ⟨i0, hi, hzz⟩ := Option.map_eq_some_iff.1 hinfo
  simp only [Prod.mk.injEq] at hzz
  obtain ⟨hz0, hz1, hz2⟩ := hzz
  have hlen : xs.length + 1 ≤ 140737488355328 := Nat.le_trans (Nat.le_mul_of_pos_right _ hb0) hl
  obtain ⟨h0, inner, hown, hr⟩ := HO
  have hcl : cs.length = d.sz := d.K_len (d.K_of_M hp)
  refine wpList_append_own_at W hgd s x t ho base e i0 z d.sz bytes ht hi hz0 hz1 hz2 hz hs0 v xs.length inner hs hown ⟨g, 0, none⟩ 1 1 cs hx (by omega)
    ?_ (d.K_one (d.K_of_M hp)) (by simp only [maxLen]; omega) hl (by omega) ?_
  · intro j u hj
    have := hg j u hj
    rcases Nat.eq_zero_or_pos j with rfl | hj0
    · simpa [Addr.add] using this
    · rw [Addr.add]; simp; rw [if_neg (by omega)]; exact this
  intro v1 w1 hown1 hgr _ hat
  have hat' : v1.ownBlock = v.ownBlock ∨ ∃ b, v1.ownBlock = some b ∧ W.heap.size ≤ b := by
    rcases hat with hat | hat
    · exact .inl hat
    · exact .inr ⟨_, hat, Nat.le_refl _⟩
  exact h v1 w1 (Kd.R_appended h0 hr hp hokp hfresh hown1 hgr hat') (HB.grown hgr hbase (own_base hown)) hgr hat'
end

/-- A text's place in a list of texts. -/
theorem strs_at {w : World} {A : Option Addr} {n : Nat} {xs : List ByteArray} (h : Kd.string.C w A n xs) : ∀ j (hj : j < xs.length), ∃ ad, A = some ad ∧ w.cell? (ad.add j) = some (.string xs[j]) := by
  intro j hj
  obtain ⟨ad, hA, hc⟩ := h.2.2 (by have := h.1; omega)
  obtain ⟨c, hl, hk, hcell⟩ := hc j xs[j] (List.getElem?_eq_getElem hj)
  have hk' : c = [.string xs[j]] := hk
  subst hk'
  have := hcell 0 _ rfl
  have e : Kd.string.sz = 1 := rfl
  rw [e, Nat.mul_one, Nat.add_zero] at this
  exact ⟨ad, hA, this⟩
/-- A row's place in a list of rows. -/
theorem rows_at {α : Type} {d : Kd α} {e : Nat} {w : World} {A : Option Addr} {n : Nat} {xs : List (List α)} (h : (Kd.slice e d).C w A n xs) : ∀ j (hj : j < xs.length), ∃ ad A' c', A = some ad ∧ w.cell? (ad.add j) = some (.slice A' xs[j].length c') ∧ xs[j].length ≤ c' ∧ d.C w A' xs[j].length xs[j] := by
  intro j hj
  obtain ⟨ad, hA, hc⟩ := h.2.2 (by have := h.1; omega)
  obtain ⟨c, hl, hk, hcell⟩ := hc j xs[j] (List.getElem?_eq_getElem hj)
  obtain ⟨A', c', rfl, hl', hC⟩ := hk
  have := hcell 0 _ rfl
  have e : (Kd.slice e d).sz = 1 := rfl
  rw [e, Nat.mul_one, Nat.add_zero] at this
  exact ⟨ad, A', c', hA, this, hl', hC⟩
/-- Nothing in an empty row of the call's own. -/
theorem R_empty {α : Type} (d : Kd α) (e : Nat) (w : World) (base : Nat) (hb : base ≤ w.heap.size) : d.R e (w.alloc (.cells #[] e)) base (fun _ => True) (.slice (some ⟨w.heap.size, 0, none⟩) 0 0) [] := by
  refine ⟨fun _ _ => trivial, [], World.ownsRow_made w #[] 0 hb (Nat.zero_le _) (by simp), ⟨by simp, fun j p h => by simp at h⟩⟩
/-- A row of the call's own is returned. -/
def RetRow {α : Type} (d : Kd α) (e : Nat) (xs : List α) (w : World) (en : Ending) (w' : World) : Prop :=
  ∃ v, en = .returned v ∧ d.R e w' w.heap.size (fun _ => True) v xs ∧ Below w.heap.size w w'

end Go.Proofs.Ytjifoimkjgepcaa.K
