/-
  A double array in memory; the walk of init.
-/
import Derived.Test.YtjifoimkjgepcaaK
import Derived.Test.YtjifoimkjgepcaaDt
import Derived.Test.YtjifoimkjgepcaaRows
import Derived.Deep.QuietTactic
import Derived.BigQuiet
import Derived.RegionTactic
import Derived.BigRegion
import Derived.Outline
set_option linter.unusedVariables false
set_option linter.unusedSimpArgs false
namespace Go.Proofs.Ytjifoimkjgepcaa.Da
open Go.RowKit Go.Proofs.Ytjifoimkjgepcaa.K Go.Proofs.YtjifoimkjgepcaaW.PrintWords

abbrev tDA : Nat := 80
abbrev tEl : Nat := 133
/-- The cells of an array. -/
def cellsOf (A : DA) : Array Value := Array.ofFn (n := 2 * A.n) fun i => if i.1 % 2 = 0 then .int .i32 (A.b (i.1 / 2)) else .int .i32 (A.c (i.1 / 2))
theorem cells_size (A : DA) : (cellsOf A).size = 2 * A.n := by simp [cellsOf]
theorem cells_b (A : DA) {i : Nat} (h : i < A.n) : (cellsOf A)[i * 2]? = some (.int .i32 (A.b i)) := by
  unfold cellsOf
  rw [Array.getElem?_ofFn, dif_pos (by omega)]
  simp [show i * 2 % 2 = 0 by omega, show i * 2 / 2 = i by omega]
theorem cells_c (A : DA) {i : Nat} (h : i < A.n) : (cellsOf A)[i * 2 + 1]? = some (.int .i32 (A.c i)) := by
  unfold cellsOf
  rw [Array.getElem?_ofFn, dif_pos (by omega)]
  simp [show (i * 2 + 1) % 2 = 1 by omega, show (i * 2 + 1) / 2 = i by omega]
theorem cells_set_b (A : DA) {i : Nat} (h : i < A.n) (v : Int) : (cellsOf A).setIfInBounds (i * 2) (.int .i32 v) = cellsOf { A with b := upd A.b i v } := by
  apply Array.ext
  · simp [cells_size]
  · intro j h1 h2
    have h3 : j < 2 * A.n := by simpa [cells_size] using h1
    rw [Array.getElem_setIfInBounds (by simpa using h1)]
    simp only [cellsOf, Array.getElem_ofFn, upd]
    by_cases e : i * 2 = j
    · subst e
      simp [show i * 2 % 2 = 0 by omega, show i * 2 / 2 = i by omega]
    · rw [if_neg e]
      by_cases e2 : j % 2 = 0
      · rw [if_pos e2, if_pos e2, if_neg (by omega)]
      · rw [if_neg e2, if_neg e2]
theorem cells_set_c (A : DA) {i : Nat} (h : i < A.n) (v : Int) : (cellsOf A).setIfInBounds (i * 2 + 1) (.int .i32 v) = cellsOf { A with c := upd A.c i v } := by
  apply Array.ext
  · simp [cells_size]
  · intro j h1 h2
    have h3 : j < 2 * A.n := by simpa [cells_size] using h1
    rw [Array.getElem_setIfInBounds (by simpa using h1)]
    simp only [cellsOf, Array.getElem_ofFn, upd]
    by_cases e : i * 2 + 1 = j
    · subst e
      simp [show (i * 2 + 1) % 2 = 1 by omega, show (i * 2 + 1) / 2 = i by omega]
    · rw [if_neg e]
      by_cases e2 : j % 2 = 0
      · rw [if_pos e2, if_pos e2]
      · rw [if_neg e2, if_neg e2, if_neg (by omega)]
theorem cells_ext {A B : DA} (hn : A.n = B.n) (hb : ∀ i, i < A.n → A.b i = B.b i) (hc : ∀ i, i < A.n → A.c i = B.c i) : cellsOf A = cellsOf B := by
  apply Array.ext
  · simp [cells_size, hn]
  · intro j h1 h2
    have h3 : j < 2 * A.n := by simpa [cells_size] using h1
    simp only [cellsOf, Array.getElem_ofFn]
    rw [hb _ (by omega), hc _ (by omega)]

/-- A double array in a block of its own, behind a variable. -/
structure Arr (dp g : Nat) (A : DA) (w : World) : Prop where
  var : w.heap[dp]? = some (.cells #[.slice (some ⟨g, 0, none⟩) A.n A.n] tDA (0, 0))
  arr : w.heap[g]? = some (.cells (cellsOf A) tEl (0, 0))
theorem Arr.ne {dp g : Nat} {A : DA} {w : World} (h : Arr dp g A w) : dp ≠ g := typ_ne h.var h.arr (by decide)
/-- What the variable and its array hold may turn, and new blocks come. -/
structure Kp (dp g : Nat) (w w' : World) : Prop where
  os : w'.os = w.os
  tape : w'.tape = w.tape
  output : w'.output = w.output
  size : w.heap.size ≤ w'.heap.size
  block : ∀ k, k < w.heap.size → k ≠ dp → k ≠ g → w'.heap[k]? = w.heap[k]?
theorem Kp.refl (dp g : Nat) (w : World) : Kp dp g w w := ⟨rfl, rfl, rfl, Nat.le_refl _, fun _ _ _ _ => rfl⟩
theorem Kp.trans {dp g g' : Nat} {a b c : World} (h : Kp dp g a b) (k : Kp dp g' b c) (hg : g' = g ∨ a.heap.size ≤ g') : Kp dp g a c :=
  ⟨k.os.trans h.os, k.tape.trans h.tape, k.output.trans h.output, Nat.le_trans h.size k.size, fun i h1 h2 h3 => (k.block i (Nat.lt_of_lt_of_le h1 h.size) h2 (by omega)).trans (h.block i h1 h2 h3)⟩
theorem Kp.drew {dp g : Nat} {a w : World} (h : Kp dp g a w) : Kp dp g a w.drew := ⟨h.os, h.tape, h.output, h.size, h.block⟩
theorem Kp.alloc {dp g : Nat} {a w : World} (h : Kp dp g a w) (o : Obj) : Kp dp g a (w.alloc o) :=
  ⟨h.os, h.tape, h.output, by have := h.size; simp; omega, fun k h1 h2 h3 => (Below.heap_alloc w o k (Nat.lt_of_lt_of_le h1 h.size)).trans (h.block k h1 h2 h3)⟩
theorem Kp.set {dp g : Nat} {a w : World} (h : Kp dp g a w) {p : Addr} (hp : p.block = dp ∨ p.block = g ∨ a.heap.size ≤ p.block) (u : Value) : Kp dp g a (w.setCell p u) :=
  ⟨h.os, h.tape, h.output, by have := h.size; simp [World.setCell]; omega, fun k h1 h2 h3 => (Below.heap_setCell w p u k (by omega)).trans (h.block k h1 h2 h3)⟩
theorem Kp.below {dp g B : Nat} {w w' : World} (h : Kp dp g w w') (h1 : B ≤ dp) (h2 : B ≤ g) (hB : B ≤ w.heap.size) : Below B w w' :=
  ⟨h.os, h.tape, h.output, h.size, fun k hk => h.block k (by omega) (by omega) (by omega)⟩
theorem Kp.of_below {dp g : Nat} {w w' : World} (h : Below w.heap.size w w') : Kp dp g w w' := ⟨h.os, h.tape, h.output, h.size, fun k hk _ _ => h.block k hk⟩

section
variable {dp g : Nat} {A : DA} {w : World}
theorem Arr.cv (h : Arr dp g A w) : w.cell? ⟨dp, 0, none⟩ = some (.slice (some ⟨g, 0, none⟩) A.n A.n) := by rw [cell_of_heap h.var]; rfl
theorem Arr.fv (h : Arr dp g A w) : w.frozen? ⟨dp, 0, none⟩ = false := frozen_of_heap h.var 0
theorem Arr.cb (h : Arr dp g A w) {i : Nat} (hi : i < A.n) : w.cell? ⟨g, i * 2, none⟩ = some (.int .i32 (A.b i)) := by rw [cell_of_heap h.arr, cells_b A hi]
theorem Arr.cc (h : Arr dp g A w) {i : Nat} (hi : i < A.n) : w.cell? ⟨g, i * 2 + 1, none⟩ = some (.int .i32 (A.c i)) := by rw [cell_of_heap h.arr, cells_c A hi]
theorem Arr.f (h : Arr dp g A w) (j : Nat) : w.frozen? ⟨g, j, none⟩ = false := frozen_of_heap h.arr j
theorem Arr.drew (h : Arr dp g A w) : Arr dp g A w.drew := ⟨h.var, h.arr⟩
theorem Arr.set_b (h : Arr dp g A w) {i : Nat} (hi : i < A.n) (v : Int) : Arr dp g { A with b := upd A.b i v } (w.setCell ⟨g, i * 2, none⟩ (.int .i32 v)) :=
  ⟨by rw [heap_set_ne h.ne]; exact h.var, by rw [heap_set h.arr, cells_set_b A hi]⟩
theorem Arr.set_c (h : Arr dp g A w) {i : Nat} (hi : i < A.n) (v : Int) : Arr dp g { A with c := upd A.c i v } (w.setCell ⟨g, i * 2 + 1, none⟩ (.int .i32 v)) :=
  ⟨by rw [heap_set_ne h.ne]; exact h.var, by rw [heap_set h.arr, cells_set_c A hi]⟩
theorem Arr.keep (h : Arr dp g A w) {w' : World} (h1 : w'.heap[dp]? = w.heap[dp]?) (h2 : w'.heap[g]? = w.heap[g]?) : Arr dp g A w' := ⟨h1.trans h.var, h2.trans h.arr⟩
theorem Arr.alloc (h : Arr dp g A w) (o : Obj) : Arr dp g A (w.alloc o) := ⟨heap_old h.var o, heap_old h.arr o⟩
end

/-- An array of zeros. -/
def zeroA (n : Nat) : DA := ⟨n, fun _ => 0, fun _ => 0⟩
theorem made_zero (n : Nat) : madeCells #[.int .i32 0, .int .i32 0] (n * 2) = cellsOf (zeroA n) := by
  apply Array.ext
  · simp [cells_size, size_madeCells, zeroA]; omega
  · intro j h1 h2
    simp only [madeCells, cellsOf, Array.getElem_ofFn, Array.getElem_map, Array.getElem_range, zeroA]
    have : j % 2 = 0 ∨ j % 2 = 1 := by omega
    rcases this with h | h <;> simp [h]
/-- make of a double array. -/
theorem make_da (n : Nat) (hn : n ≤ 4294967296) (W : World) : (Instr.makeSlice tDA (.int .i64 n) (.int .i64 n)).run Try.prog W = .ok (.slice (some ⟨W.heap.size, 0, none⟩) n n) (W.alloc (.cells (cellsOf (zeroA n)) tEl)) := by
  obtain ⟨i, hi, hii⟩ := Option.map_eq_some_iff.1 (show (Try.prog.info? tEl).map (fun i => (i.zero, i.size, i.bytes)) = some (some (.agg #[.int .i32 0, .int .i32 0]), 2, 8) by kernel_rfl)
  simp only [Prod.mk.injEq] at hii
  obtain ⟨hz, hsz, hby⟩ := hii
  have := run_make (P := Try.prog) W tDA tEl i _ Try.underlying80 hi hz .i64 .i64 n n (by omega) (by omega) (by rw [hby]; omega) (by omega)
  rw [this, hsz, ← made_zero]
  rfl
end Go.Proofs.Ytjifoimkjgepcaa.Da
