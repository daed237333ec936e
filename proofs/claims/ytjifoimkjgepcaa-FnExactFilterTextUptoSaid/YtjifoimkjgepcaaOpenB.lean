/-
  An argument that can be read is a value of its kind, and its bulk is at most the reading's.
-/
import Derived.Test.YtjifoimkjgepcaaOpen
import Derived.Test.YtjifoimkjgepcaaRows
set_option linter.unusedVariables false
set_option linter.unusedSimpArgs false
namespace Go.Proofs.Ytjifoimkjgepcaa.K
open Go.RowKit Go.Proofs.YtjifoimkjgepcaaW.PrintWords

def OpensB {α : Type} (P : Program) (w : World) (e : TypeId) (d : Kd α) (V : α → Prop) (m : α → Nat) : Prop :=
  ∀ {H : Type} (enc : TypeId × Value → H) (base : Nat) (spare : Nat → Bool) (held : Bool) (fuel : Nat) (cs : List Value) (x : DataW H × List MemPlace),
    DataW.trod enc P w base spare held fuel e cs = some x → ∃ y, d.K w y cs ∧ V y ∧ m y ≤ Rows.uptoBulk x.1
theorem bulk_one {H : Type} (d : DataW H) : 1 ≤ Rows.uptoBulk d := by
  cases d with
  | lit l => cases l <;> simp [Rows.uptoBulk]
  | nil => simp [Rows.uptoBulk]
  | ptr d => simp [Rows.uptoBulk]
  | slice elems spare => simp [Rows.uptoBulk]
  | agg parts => simp [Rows.uptoBulk]
  | iface t d => simp [Rows.uptoBulk]
  | map entries => simp [Rows.uptoBulk]
  | held h => simp [Rows.uptoBulk]
def bulkS (s : ByteArray) : Nat := s.size + 1
def bulkL {α : Type} (m : α → Nat) (xs : List α) : Nat := (xs.map m).sum + 1
theorem OpensB.string {P : Program} {w : World} {e : TypeId} (ht : P.underlying e = some .string) : OpensB P w e Kd.string (fun s => s.size ≤ maxLen) bulkS := by
  intro H enc base spare held fuel cs x h
  obtain ⟨s, rfl, hx, hs⟩ := DataW.trod_string ht h
  refine ⟨s, rfl, hs, ?_⟩
  rw [hx]
  simp [Rows.uptoBulk, bulkS]
theorem OpensB.of {α : Type} {P : Program} {w : World} {e : TypeId} {d : Kd α} {V : α → Prop} (h : Opens P w e d V) : OpensB P w e d V (fun _ => 1) := by
  intro H enc base spare held fuel cs x hx
  obtain ⟨y, h1, h2⟩ := h enc base spare held fuel cs x hx
  exact ⟨y, h1, h2, bulk_one _⟩
theorem bulk_all {α H : Type} {m : α → Nat} {Y : Nat → α} {D : Nat → DataW H} : ∀ (l : List Nat), (∀ i ∈ l, m (Y i) ≤ Rows.uptoBulk (D i)) → (l.map fun i => m (Y i)).sum ≤ Rows.uptoBulkAll (l.map D)
  | [], _ => by simp
  | i :: l, h => by
    have h1 := h i List.mem_cons_self
    have h2 := bulk_all l (fun j hj => h j (List.mem_cons_of_mem _ hj))
    simp only [List.map_cons, List.sum_cons, Rows.uptoBulkAll]
    omega
theorem OpensB.slice {α : Type} [Inhabited α] {P : Program} {w : World} {t e : TypeId} {d : Kd α} {V : α → Prop} {m : α → Nat} (ht : P.underlying t = some (.slice e)) (hsz : P.cellsOf e = d.sz) (hd : OpensB P w e d V m) (q : Nat) :
    OpensB P w t (Kd.slice q d) (fun xs => ∀ x ∈ xs, V x) (bulkL m) := by
  intro H enc base spare held fuel cs x h
  rcases Deep.open_slice ht h with ⟨rfl, rfl⟩ | ⟨a, len, cap, mm, n, D, Pl, rfl, _, hl, hm, hmm, rfl, hx⟩
  · exact ⟨[], ⟨none, 0, rfl, Nat.le_refl _, Kd.C_nil _ _⟩, by simp, by simp [bulkL, Rows.uptoBulk]⟩
  · have hlm : len ≤ mm := by rw [hmm]; split <;> omega
    obtain ⟨Y, hY⟩ := Deep.choose_lt (α := α) (n := len) (p := fun i y => ∃ cs', w.cells? base (a.add (i * P.cellsOf e)) (P.cellsOf e) = some cs' ∧ d.K w y cs' ∧ V y ∧ m y ≤ Rows.uptoBulk (D i)) (by
      intro i hi
      obtain ⟨cs', h1, h2⟩ := hx i (by omega)
      obtain ⟨y, h3, h4, h5⟩ := hd enc base spare held n cs' _ h2
      exact ⟨y, cs', h1, h3, h4, h5⟩)
    refine ⟨(List.range len).map Y, ⟨some a, cap, by simp, by simpa using hl, ?_⟩, ?_, ?_⟩
    · refine ⟨rfl, by simp [maxLen] at hm ⊢; omega, fun _ => ⟨a, rfl, fun j p hp => ?_⟩⟩
      rw [List.getElem?_map] at hp
      obtain ⟨i, hi, rfl⟩ := Option.map_eq_some_iff.1 hp
      obtain ⟨hlt, hie⟩ := List.getElem?_eq_some_iff.1 hi
      simp at hlt hie
      subst hie
      obtain ⟨cs', h1, h2, h3⟩ := hY j hlt
      obtain ⟨_, hlen, hc⟩ := World.cells?_some h1
      refine ⟨cs', d.K_len h2, h2, fun i u hu => ?_⟩
      have hi' : i < P.cellsOf e := by rw [← hlen]; exact (List.getElem?_eq_some_iff.1 hu).1
      have := hc i hi'
      rw [Deep.add_add, hsz] at this
      rw [this]; exact hu
    · intro y hy
      obtain ⟨i, hi, rfl⟩ := List.mem_map.1 hy
      obtain ⟨_, _, _, h, _⟩ := hY i (by simpa using hi)
      exact h
    · have := bulk_all (H := H) (m := m) (Y := Y) (D := D) (List.range len) (fun i hi => by
        obtain ⟨_, _, _, _, h⟩ := hY i (by simpa using hi)
        exact h)
      simp only [bulkL, List.map_map, Function.comp_def, Rows.uptoBulk]
      omega
/-- An argument by its kind, with its bulk. -/
theorem open_slice_argB {α : Type} {P : Program} {w : World} {t : TypeId} {q : Nat} {d : Kd α} {V : List α → Prop} {m : List α → Nat} (ho : OpensB P w t (Kd.slice q d) V m) {H : Type} {enc : TypeId × Value → H} {base : Nat} {spare : Nat → Bool} {held : Bool} {v : Value} {D : DataW H} {p : List MemPlace}
    (hv : ∃ a n c, v = .slice a n c) (h : DataW.Trod enc P w base spare held t v D p) : ∃ A c xs, v = .slice A xs.length c ∧ xs.length ≤ c ∧ d.C w A xs.length xs ∧ V xs ∧ m xs ≤ Rows.uptoBulk D := by
  obtain ⟨a, n, c, rfl⟩ := hv
  obtain ⟨fuel, hf⟩ := h
  obtain ⟨xs, ⟨A, c', he, hlc, hC⟩, hV, hm⟩ := ho enc base spare held fuel _ _ hf
  simp [Value.cells] at he
  obtain ⟨rfl, rfl, rfl⟩ := he
  exact ⟨_, _, xs, rfl, hlc, hC, hV, hm⟩
end Go.Proofs.Ytjifoimkjgepcaa.K
