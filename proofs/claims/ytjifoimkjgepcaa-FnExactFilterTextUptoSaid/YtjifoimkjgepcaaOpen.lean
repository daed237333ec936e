/-
  An argument that can be read as data is a value of its kind: kind by kind.
-/
import Derived.Test.YtjifoimkjgepcaaK
import Derived.Deep.Slices
import Derived.ChangeArms
set_option linter.unusedVariables false
set_option linter.unusedSimpArgs false
namespace Go.Proofs.Ytjifoimkjgepcaa.K
open Go.RowKit Go.Proofs.YtjifoimkjgepcaaW.PrintWords

/-- What can be read at type e is of kind d, and V holds of it. -/
def Opens {α : Type} (P : Program) (w : World) (e : TypeId) (d : Kd α) (V : α → Prop) : Prop :=
  ∀ {H : Type} (enc : TypeId × Value → H) (base : Nat) (spare : Nat → Bool) (held : Bool) (fuel : Nat) (cs : List Value) (x : DataW H × List MemPlace),
    DataW.trod enc P w base spare held fuel e cs = some x → ∃ y, d.K w y cs ∧ V y

theorem Opens.string {P : Program} {w : World} {e : TypeId} (ht : P.underlying e = some .string) : Opens P w e Kd.string (fun s => s.size ≤ maxLen) := by
  intro H enc base spare held fuel cs x h
  obtain ⟨s, rfl, _, hs⟩ := DataW.trod_string ht h
  exact ⟨s, rfl, hs⟩
theorem Opens.bool {P : Program} {w : World} {e : TypeId} (ht : P.underlying e = some .bool) : Opens P w e Kd.bool (fun _ => True) := by
  intro H enc base spare held fuel cs x h
  obtain ⟨s, rfl, _⟩ := DataW.trod_bool ht h
  exact ⟨s, rfl, trivial⟩
theorem Opens.int {P : Program} {w : World} {e : TypeId} {k : IntKind} (ht : P.underlying e = some (.int k)) : Opens P w e (Kd.int k) (fun n => (Lit.int k n).wf = true) := by
  intro H enc base spare held fuel cs x h
  obtain ⟨s, rfl, _, hs⟩ := DataW.trod_int ht h
  exact ⟨s, rfl, hs⟩
theorem Opens.imp {α : Type} {P : Program} {w : World} {e : TypeId} {d : Kd α} {V V' : α → Prop} (h : Opens P w e d V) (hv : ∀ x, V x → V' x) : Opens P w e d V' := by
  intro H enc base spare held fuel cs x hx
  obtain ⟨y, h1, h2⟩ := h enc base spare held fuel cs x hx
  exact ⟨y, h1, hv _ h2⟩
theorem Opens.slice {α : Type} [Inhabited α] {P : Program} {w : World} {t e : TypeId} {d : Kd α} {V : α → Prop} (ht : P.underlying t = some (.slice e)) (hsz : P.cellsOf e = d.sz) (hd : Opens P w e d V) (q : Nat) :
    Opens P w t (Kd.slice q d) (fun xs => ∀ x ∈ xs, V x) := by
  intro H enc base spare held fuel cs x h
  rcases Deep.open_slice ht h with ⟨rfl, _⟩ | ⟨a, len, cap, m, n, D, Pl, rfl, _, hl, hm, hmm, _, hx⟩
  · exact ⟨[], ⟨none, 0, rfl, Nat.le_refl _, Kd.C_nil _ _⟩, by simp⟩
  · have hlm : len ≤ m := by rw [hmm]; split <;> omega
    obtain ⟨Y, hY⟩ := Deep.choose_lt (α := α) (n := len) (p := fun i y => ∃ cs', w.cells? base (a.add (i * P.cellsOf e)) (P.cellsOf e) = some cs' ∧ d.K w y cs' ∧ V y) (by
      intro i hi
      obtain ⟨cs', h1, h2⟩ := hx i (by omega)
      obtain ⟨y, h3, h4⟩ := hd enc base spare held n cs' _ h2
      exact ⟨y, cs', h1, h3, h4⟩)
    refine ⟨(List.range len).map Y, ⟨some a, cap, by simp, by simpa using hl, ?_⟩, ?_⟩
    · refine ⟨rfl, by simp [maxLen] at hm ⊢; omega, fun _ => ⟨a, rfl, fun j p hp => ?_⟩⟩
      rw [List.getElem?_map] at hp
      obtain ⟨i, hi, rfl⟩ := Option.map_eq_some_iff.1 hp
      obtain ⟨hlt, hie⟩ := List.getElem?_eq_some_iff.1 hi
      simp at hlt hie
      subst hie
      obtain ⟨cs', h1, h2, h3⟩ := hY j hlt
      obtain ⟨_, hlen, hc⟩ := World.cells?_some h1
      refine ⟨cs', d.K_len h2, h2, fun i u hu => ?_⟩
      have hi' : i < P.cellsOf e := by rw [← hlen]; exact (List.getElem?_eq_some_iff.1 hu).1
      have := hc i hi'
      rw [Deep.add_add, hsz] at this
      rw [this]; exact hu
    · intro y hy
      obtain ⟨i, hi, rfl⟩ := List.mem_map.1 hy
      obtain ⟨_, _, _, h⟩ := hY i (by simpa using hi)
      exact h

/-- Fields from an offset on. -/
def OpensL {α : Type} (P : Program) (w : World) (fs : List Field) (off : Nat) (d : Kd α) (V : α → Prop) : Prop :=
  ∀ {H : Type} (enc : TypeId × Value → H) (base : Nat) (spare : Nat → Bool) (held : Bool) (fuel : Nat) (cs : List Value),
    cs.length = off + d.sz → (∀ f ∈ fs, ∃ x, DataW.trod enc P w base spare held fuel f.type ((cs.drop f.offset).take (P.cellsOf f.type)) = some x) → ∃ y, d.K w y (cs.drop off) ∧ V y
theorem OpensL.one {α : Type} {P : Program} {w : World} {f : Field} {off : Nat} {d : Kd α} {V : α → Prop} (ho : f.offset = off) (hs : P.cellsOf f.type = d.sz) (hd : Opens P w f.type d V) : OpensL P w [f] off d V := by
  intro H enc base spare held fuel cs hl hf
  obtain ⟨x, hx⟩ := hf f (by simp)
  obtain ⟨y, h1, h2⟩ := hd enc base spare held fuel _ x hx
  refine ⟨y, ?_, h2⟩
  rw [ho, hs, List.take_of_length_le (by simp; omega)] at h1
  exact h1
theorem OpensL.cons {α β : Type} {P : Program} {w : World} {f : Field} {fs : List Field} {off : Nat} {d : Kd α} {d' : Kd β} {V : α → Prop} {V' : β → Prop} (ho : f.offset = off) (hs : P.cellsOf f.type = d.sz) (hd : Opens P w f.type d V)
    (h : OpensL P w fs (off + d.sz) d' V') : OpensL P w (f :: fs) off (Kd.pair d d') (fun y => V y.1 ∧ V' y.2) := by
  intro H enc base spare held fuel cs hl hf
  obtain ⟨x, hx⟩ := hf f (by simp)
  obtain ⟨y, h1, h2⟩ := hd enc base spare held fuel _ x hx
  have hp : (Kd.pair d d').sz = d.sz + d'.sz := rfl
  obtain ⟨z, h3, h4⟩ := h enc base spare held fuel cs (by omega) (fun g hg => hf g (List.mem_cons_of_mem _ hg))
  refine ⟨(y, z), ⟨(cs.drop off).take d.sz, cs.drop (off + d.sz), ?_, ?_, h3⟩, h2, h4⟩
  · rw [← List.drop_drop, List.take_append_drop]
  · rw [ho, hs] at h1; exact h1
theorem Opens.struct {α β : Type} {P : Program} {w : World} {t : TypeId} {fs : Array Field} {d : Kd α} {V : α → Prop} (ht : P.underlying t = some (.struct fs)) (hs : P.cellsOf t = d.sz) (h : OpensL P w fs.toList 0 d V)
    (f : β → α) (g : α → β) (hfg : ∀ a, f (g a) = a) : Opens P w t (Kd.iso d f) (fun y => V (f y)) := by
  intro H enc base spare held fuel cs x hx
  obtain ⟨xs, n, _, _, hl, hxl, hall⟩ := DataW.trod_struct ht hx
  obtain ⟨y, h1, h2⟩ := h enc base spare held n cs (by omega) (by
    intro f hf
    obtain ⟨i, hi⟩ := List.getElem?_of_mem hf
    have hi' : fs[i]? = some f := by simpa using hi
    have hlt : i < xs.length := by rw [hxl]; exact (Array.getElem?_eq_some_iff.1 hi').1
    exact ⟨xs[i], by rw [hall i f hi', List.getElem?_eq_getElem hlt]⟩)
  refine ⟨g y, ?_, by show V (f (g y)); rw [hfg]; exact h2⟩
  show d.K w (f (g y)) cs
  rw [hfg]
  simpa using h1

/-- An argument by its kind. -/
theorem open_slice_arg {α : Type} {P : Program} {w : World} {t : TypeId} {q : Nat} {d : Kd α} {V : List α → Prop} (ho : Opens P w t (Kd.slice q d) V) {H : Type} {enc : TypeId × Value → H} {base : Nat} {spare : Nat → Bool} {held : Bool} {v : Value} {D : DataW H} {p : List MemPlace}
    (hv : ∃ a n c, v = .slice a n c) (h : DataW.Trod enc P w base spare held t v D p) : ∃ A c xs, v = .slice A xs.length c ∧ xs.length ≤ c ∧ d.C w A xs.length xs ∧ V xs := by
  obtain ⟨a, n, c, rfl⟩ := hv
  obtain ⟨fuel, hf⟩ := h
  obtain ⟨xs, ⟨A, c', he, hlc, hC⟩, hV⟩ := ho enc base spare held fuel _ _ hf
  simp [Value.cells] at he
  obtain ⟨rfl, rfl, rfl⟩ := he
  exact ⟨_, _, xs, rfl, hlc, hC, hV⟩
end Go.Proofs.Ytjifoimkjgepcaa.K
