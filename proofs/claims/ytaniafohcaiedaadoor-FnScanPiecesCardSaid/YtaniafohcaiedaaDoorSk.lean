/-
  Texts of UTF-8 in runs of characters. No program in sight.
-/
import Derived.Test.YtaniafohcaiedaaDoorSi
import Derived.Lib.MapLaws
set_option linter.unusedVariables false
set_option linter.unusedSimpArgs false
namespace Go.Proofs.YtaniafohcaiedaaDoor.Sn
open Go.RowKit Go.Proofs.YtaniafohcaiedaaDoor.K Go.Proofs.YtaniafohcaiedaaDoorW.PrintWords
open Go.Lib (decodeL encodeRune)

def rnL (l : List UInt8) : List Int :=
  if h : l = [] then [] else ((decodeL l).1 : Int) :: rnL (l.drop (decodeL l).2)
termination_by l.length
decreasing_by
  have h1 := Go.Lib.decodeL_width l
  have h2 := List.length_pos_iff.2 h
  rw [List.length_drop]
  omega
theorem rnL_nil : rnL [] = [] := by rw [rnL, dif_pos rfl]
theorem rnL_cons {l : List UInt8} (h : l ≠ []) : rnL l = ((decodeL l).1 : Int) :: rnL (l.drop (decodeL l).2) := by rw [rnL, dif_neg h]
inductive GoodL : List UInt8 → Prop where
  | nil : GoodL []
  | cons (l : List UInt8) : l ≠ [] → (decodeL l).1 ≠ 65533 → GoodL (l.drop (decodeL l).2) → GoodL l
/-- How many bytes the first m characters have. -/
def cutL : Nat → List UInt8 → Nat
  | 0, _ => 0
  | m + 1, l => if l = [] then 0 else (decodeL l).2 + cutL m (l.drop (decodeL l).2)
theorem cutL_nil (m : Nat) : cutL m [] = 0 := by cases m <;> simp [cutL]
theorem cutL_cons {m : Nat} {l : List UInt8} (h : l ≠ []) : cutL (m + 1) l = (decodeL l).2 + cutL m (l.drop (decodeL l).2) := by rw [cutL, if_neg h]
def bytesL (rs : List Int) : List UInt8 := rs.flatMap encodeRune
theorem cutL_le : ∀ (m : Nat) (l : List UInt8), cutL m l ≤ l.length
  | 0, _ => Nat.zero_le _
  | m + 1, l => by
    rw [cutL]
    split
    · omega
    · next h =>
      have h1 := Go.Lib.decodeL_le l h
      have h2 := cutL_le m (l.drop (decodeL l).2)
      rw [List.length_drop] at h2
      omega
theorem cutL_spec : ∀ (m : Nat) (l : List UInt8), GoodL l → bytesL ((rnL l).take m) = l.take (cutL m l) ∧ rnL (l.drop (cutL m l)) = (rnL l).drop m ∧ GoodL (l.drop (cutL m l))
  | 0, l, h => by simp [cutL, bytesL, h]
  | m + 1, l, h => by
    by_cases h0 : l = []
    · subst h0
      simp [cutL, rnL_nil, bytesL, GoodL.nil]
    · cases h with
      | nil => exact absurd rfl h0
      | cons _ _ hr hg =>
        obtain ⟨h1, h2, h3⟩ := cutL_spec m _ hg
        rw [cutL, if_neg h0, rnL_cons h0]
        refine ⟨?_, ?_, ?_⟩
        · rw [List.take_succ_cons, bytesL, List.flatMap_cons, ← bytesL, h1, Go.Lib.encode_decode l h0 (fun h => hr h.1), List.take_add]
        · rw [List.drop_succ_cons, ← h2, List.drop_drop]
        · rw [← List.drop_drop]; exact h3
/-- The characters of a text in runs of m. -/
def cks (m : Nat) (rs : List Int) : List (List Int) :=
  if h : rs = [] ∨ m = 0 then [] else rs.take m :: cks m (rs.drop m)
termination_by rs.length
decreasing_by
  rw [List.length_drop]
  have : 0 < rs.length := List.length_pos_iff.2 (fun e => h (.inl e))
  omega
def decT (x : List UInt8) : Nat → Int × Nat := fun q => ((decodeL (x.drop q)).1, (decodeL (x.drop q)).2)
theorem decT_le (x : List UInt8) {q : Nat} (h : q < x.length) : 0 < (decT x q).2 ∧ q + (decT x q).2 ≤ x.length := by
  have hne : x.drop q ≠ [] := by intro e; have := congrArg List.length e; simp at this; omega
  have h1 := Go.Lib.decodeL_width (x.drop q)
  have h2 := Go.Lib.decodeL_le (x.drop q) hne
  rw [List.length_drop] at h2
  exact ⟨h1, by show q + (decodeL (x.drop q)).2 ≤ _; omega⟩
theorem g2_none (dec : Nat → Int × Nat) (n p : Nat) : g2 [] [] dec n p = p := by
  rw [g2]
  split
  · simp [memB]
  · rfl
theorem g1_cut (x : List UInt8) (off m : Nat) : ∀ (k p rc : Nat), m - rc = k + 1 → off + p ≤ x.length → p ≤ x.length - off → (g1 [] [] (m : Nat) (fun p => decT x (off + p)) (x.length - off) p rc).1 = p + cutL (k + 1) (x.drop (off + p)) := by
  intro k
  induction k with
  | zero =>
    intro p rc hk hp hp'
    rw [g1]
    by_cases hlt : off + p < x.length
    · have hd := decT_le x hlt
      have hne : x.drop (off + p) ≠ [] := by intro e; have := congrArg List.length e; simp at this; omega
      rw [dif_pos ⟨by omega, hd.1⟩, if_neg (by simp [memB]; omega), g2_none]
      simp [cutL, hne, decT]
    · rw [dif_neg (by omega), List.drop_of_length_le (by omega), cutL_nil]
      rfl
  | succ k ih =>
    intro p rc hk hp hp'
    rw [g1]
    by_cases hlt : off + p < x.length
    · have hd := decT_le x hlt
      have hne : x.drop (off + p) ≠ [] := by intro e; have := congrArg List.length e; simp at this; omega
      rw [dif_pos ⟨by omega, hd.1⟩, if_pos (by simp [memB]; omega), ih _ _ (by omega) (by omega) (by omega), cutL_cons (m := k + 1) hne, List.drop_drop]
      show p + (decodeL (x.drop (off + p))).2 + cutL (k + 1) (x.drop (off + (p + (decodeL (x.drop (off + p))).2))) = _
      rw [Nat.add_assoc off p]
      omega
    · rw [dif_neg (by omega), List.drop_of_length_le (by omega), cutL_nil]
      rfl
theorem cutL_pos {m : Nat} {l : List UInt8} (h : l ≠ []) (hm : 0 < m) : 0 < cutL m l := by
  obtain ⟨k, rfl⟩ : ∃ k, m = k + 1 := ⟨m - 1, by omega⟩
  rw [cutL, if_neg h]
  have := Go.Lib.decodeL_width l
  omega
/-- The sentences of a text without signs are its characters in runs. -/
theorem sents_cut (s : ByteArray) (m : Nat) (hm : 0 < m) : ∀ (k off : Nat), s.size - off ≤ k → off ≤ s.size → GoodL (s.data.toList.drop off) → sents [] [] (m : Nat) (decT s.data.toList) s off = (cks m (rnL (s.data.toList.drop off))).map fun rs => ⟨(bytesL rs).toArray⟩ := by
  have hz : s.data.toList.length = s.size := data_length s
  intro k
  induction k with
  | zero =>
    intro off hk ho hg
    rw [sents, dif_neg (by omega), List.drop_of_length_le (by omega), rnL_nil, cks, dif_pos (.inl rfl)]
    rfl
  | succ k ih =>
    intro off hk ho hg
    by_cases hlt : off < s.size
    · have hne : s.data.toList.drop off ≠ [] := by intro e; have := congrArg List.length e; simp at this; omega
      have h1 := g1_cut s.data.toList off m (m - 1) 0 0 (by omega) (by omega) (by omega)
      rw [show m - 1 + 1 = m by omega] at h1
      simp only [hz, Nat.zero_add, Nat.add_zero] at h1
      have h2 := cutL_pos hne hm
      have h3 := cutL_le m (s.data.toList.drop off)
      rw [List.length_drop, hz] at h3
      obtain ⟨c1, c2, c3⟩ := cutL_spec m _ hg
      have hrn : rnL (s.data.toList.drop off) ≠ [] := by rw [rnL_cons hne]; simp
      rw [sents, h1, dif_pos ⟨hlt, h2⟩, cks, dif_neg (by simp [hrn]; omega), List.map_cons, ih _ (by omega) (by omega) (by rw [← List.drop_drop]; exact c3), ← List.drop_drop, c2]
      congr 1
      apply ba_ext
      apply Array.ext'
      simp only [ByteArray.data_extract, Array.toList_extract, List.extract_eq_take_drop, Nat.add_sub_cancel_left]
      rw [c1]
    · rw [sents, dif_neg (by omega), List.drop_of_length_le (by omega), rnL_nil, cks, dif_pos (.inl rfl)]
      rfl
end Go.Proofs.YtaniafohcaiedaaDoor.Sn
