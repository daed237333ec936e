/-
  A bytes.Buffer of the call's own, what stands beside it, bytes that lie at a place.
-/
import Derived.Test.YtaniafohcaiedaaK
import Derived.Test.YtaniafohcaiedaaShelf
set_option linter.unusedVariables false
set_option linter.unusedSimpArgs false
namespace Go.Proofs.Ytaniafohcaiedaa.Z
open Go.RowKit Go.Proofs.Ytaniafohcaiedaa.K Go.Proofs.YtaniafohcaiedaaW.PrintWords

abbrev U8 : Nat := 5
abbrev tBuf : Nat := 76
/-- A buffer in a block of its own, which holds these bytes. -/
def Buf (B b : Nat) (xs : List Int) (w : World) : Prop := LibA.IsBuffer tBuf (fun _ => none) U8 B b 0 (nums .u8 xs) w
theorem one_nums (k : IntKind) (xs : List Int) : ∀ v ∈ nums k xs, v.oneCell' = true := by
  intro v hv
  obtain ⟨x, _, rfl⟩ := List.mem_map.1 hv
  rfl
theorem frozen_block {w : World} {g : Nat} {cs : Array Value} {t : TypeId} (h : w.heap[g]? = some (.cells cs t (0, 0))) (i : Nat) : w.frozen? ⟨g, i, none⟩ = false := by simp [World.frozen?, h]
theorem cell_block {w : World} {g : Nat} {cs : Array Value} {t : TypeId} (h : w.heap[g]? = some (.cells cs t (0, 0))) (i : Nat) : w.cell? ⟨g, i, none⟩ = cs[i]? := by simp [World.cell?, h]
/-- What stands but for the blocks of S. -/
structure Keeps (S : Nat → Prop) (w w' : World) : Prop where
  os : w'.os = w.os
  tape : w'.tape = w.tape
  output : w'.output = w.output
  size : w.heap.size ≤ w'.heap.size
  block : ∀ i, i < w.heap.size → ¬ S i → w'.heap[i]? = w.heap[i]?
theorem Keeps.refl (S : Nat → Prop) (w : World) : Keeps S w w := ⟨rfl, rfl, rfl, Nat.le_refl _, fun _ _ _ => rfl⟩
theorem Keeps.trans {S : Nat → Prop} {a b c : World} (h : Keeps S a b) (k : Keeps S b c) : Keeps S a c :=
  ⟨k.os.trans h.os, k.tape.trans h.tape, k.output.trans h.output, Nat.le_trans h.size k.size, fun i hi hs => (k.block i (Nat.lt_of_lt_of_le hi h.size) hs).trans (h.block i hi hs)⟩
theorem Keeps.mono {S T : Nat → Prop} {a b : World} (h : Keeps S a b) (hs : ∀ i, i < a.heap.size → S i → T i) : Keeps T a b := ⟨h.os, h.tape, h.output, h.size, fun i hi ht => h.block i hi (fun k => ht (hs i hi k))⟩
theorem Keeps.below {S : Nat → Prop} {a b : World} {B : Nat} (h : Keeps S a b) (hs : ∀ i, i < a.heap.size → S i → B ≤ i) (hB : B ≤ a.heap.size) : Below B a b :=
  ⟨h.os, h.tape, h.output, h.size, fun i hi => h.block i (Nat.lt_of_lt_of_le hi hB) (fun k => by have := hs i (Nat.lt_of_lt_of_le hi hB) k; omega)⟩
theorem Keeps.of_below {S : Nat → Prop} {a b : World} (h : Below a.heap.size a b) : Keeps S a b := ⟨h.os, h.tape, h.output, h.size, fun i hi _ => h.block i hi⟩
theorem Keeps.drewN {S : Nat → Prop} {a b : World} (h : Keeps S a b) (n : Nat) : Keeps S a (b.drewN n) := ⟨h.os, h.tape, h.output, h.size, h.block⟩
theorem Keeps.setCell {S : Nat → Prop} {a b : World} (h : Keeps S a b) {p : Addr} (hp : S p.block) (v : Value) : Keeps S a (b.setCell p v) :=
  ⟨h.os, h.tape, h.output, by have := ((Below.refl 0 b).setCell (p := p) (Nat.zero_le _) v).size; exact Nat.le_trans h.size this, fun i hi hs => (Below.heap_setCell b p v i (fun e => hs (e ▸ hp))).trans (h.block i hi hs)⟩
theorem Keeps.setRow {S : Nat → Prop} {a b : World} (h : Keeps S a b) {g : Nat} (hp : S g) (cs : Array Value) : Keeps S a (b.setRow g cs) :=
  ⟨h.os, h.tape, h.output, by simp [World.setRow]; exact h.size, fun i hi hs => (setRow_other b g i cs (fun e => hs (e ▸ hp))).trans (h.block i hi hs)⟩

/-- The bytes that lie at a place. -/
def Src (w : World) (ad : Addr) (xs : List Int) : Prop := ∀ j x, (nums .u8 xs)[j]? = some x → w.cell? (ad.add j) = some x
theorem Src.keeps {S : Nat → Prop} {w w' : World} {ad : Addr} {xs : List Int} (h : Src w ad xs) (k : Keeps S w w') (hs : ¬ S ad.block) : Src w' ad xs := by
  intro j x hx
  have h1 := h j x hx
  have hb : (ad.add j).block = ad.block := by unfold Addr.add; split <;> rfl
  have hlt := World.block_lt_of_cell? w _ h1
  have := k.block _ hlt (by rw [hb]; exact hs)
  unfold World.cell? at h1 ⊢
  rw [this]
  exact h1
theorem add_add' (ad : Addr) (i j : Nat) : (ad.add i).add j = ad.add (i + j) := by
  unfold Addr.add
  by_cases hi : i = 0
  · subst hi; simp
  · by_cases hj : j = 0
    · subst hj; simp [hi]
    · have : i + j ≠ 0 := by omega
      simp [hi, hj, this, Nat.add_assoc]
theorem Src.part {w : World} {ad : Addr} {xs : List Int} (h : Src w ad xs) (pos : Nat) (ys : List Int) (hp : ∃ a b, xs = a ++ ys ++ b ∧ a.length = pos) : ∀ j x, (nums .u8 ys)[j]? = some x → w.cell? ((ad.add pos).add j) = some x := by
  obtain ⟨a, b, rfl, rfl⟩ := hp
  intro j x hx
  rw [add_add']
  apply h
  have hj : j < ys.length := by
    have := (List.getElem?_eq_some_iff.1 hx).1
    simpa [nums] using this
  rw [nums_append, nums_append, List.getElem?_append_left (by simp [nums]; omega), List.getElem?_append_right (by simp [nums])]
  simpa [nums] using hx
theorem three_back {w : World} {b : Nat} {x y z : Value} (h : LibA.Three w b 0 tBuf (fun _ => none) x y z) : w.heap[b]? = some (.cells #[x, y, z] tBuf (0, 0)) := by
  obtain ⟨cs, hb, h0, h1, h2, hr⟩ := h
  rw [hb]
  have : cs = #[x, y, z] := by
    have h3 := hr 3 (.inr (by omega))
    have hs : cs.size = 3 := by
      have a2 := (Array.getElem?_eq_some_iff.1 h2).1
      have a3 := Array.getElem?_eq_none_iff.1 h3
      omega
    apply Array.ext
    · simpa using hs
    · intro i hi hi'
      have : i = 0 ∨ i = 1 ∨ i = 2 := by omega
      rcases this with rfl | rfl | rfl
      · have := Array.getElem?_eq_getElem hi; rw [h0] at this; simpa using this.symm
      · have := Array.getElem?_eq_getElem hi; rw [h1] at this; simpa using this.symm
      · have := Array.getElem?_eq_getElem hi; rw [h2] at this; simpa using this.symm
  rw [this]
theorem buf_whole {B b : Nat} {xs : List Int} {w : World} (h : Buf B b xs w) : Lib.IsBuffer tBuf U8 B b (nums .u8 xs) w := by
  obtain ⟨hB, v, lr, hbk, r⟩ := h
  exact ⟨hB, v, lr, three_back hbk, r⟩
theorem Buf.keeps {B b : Nat} {xs : List Int} {S : Nat → Prop} {w w' : World} (h : Buf B b xs w) (k : Keeps S w w') (hb : ¬ S b) (hS : ∀ i, i < w.heap.size → S i → ∀ cs fr, w.heap[i]? ≠ some (.cells cs U8 fr)) : Buf B b xs w' := by
  obtain ⟨hB, v, lr, hbk, hown, hne⟩ := h
  refine ⟨hB, v, lr, hbk.of_heap (k.block _ hbk.lt hb), own_move hown (fun i hi => ?_), hne⟩
  obtain ⟨cells, hc⟩ := own_typed hown i hi
  exact k.block _ (lt_of_heap hc) (fun hs => hS i (lt_of_heap hc) hs _ _ hc)

theorem R_others {α : Type} {d : Kd α} {e b : Nat} {w w' : World} {base : Nat} {ok : Nat → Prop} {v : Value} {xs : List α} (h : d.R e w base ok v xs) (he : ∀ q, q ∈ e :: d.E → q ≠ U8 ∧ q ≠ tBuf)
    {cs : Array Value} (hb : w.heap[b]? = some (.cells cs tBuf (0, 0))) (ho : Lib.OthersKept U8 (some b) w w') : d.R e w' base ok v xs := by
  refine Kd.R_mono (Kd.R_move (Kd.R_bound h) fun k hk => ?_) (fun _ hk => hk.1)
  obtain ⟨_, _, _, q, hq, cells, hc⟩ := hk
  rw [hc]
  refine ho k _ hc ?_ ?_
  · intro e'
    obtain rfl : k = b := by simpa using e'
    rw [hc] at hb
    injection hb with hb
    injection hb with _ hb
    exact (he q hq).2 hb
  · rintro c fz e'
    injection e' with _ e' _
    exact (he q hq).1 e'

theorem buf_three {B b : Nat} {xs : List Int} {w : World} (h : Buf B b xs w) : LibA.Three w b 0 tBuf (fun _ => none) (h.2.choose) (.int .i64 0) (.int .i8 h.2.choose_spec.choose) := h.2.choose_spec.choose_spec.1
end Go.Proofs.Ytaniafohcaiedaa.Z
