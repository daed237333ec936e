/-
  Plain: keys that ascend can be built.
-/
import Derived.Test.YtjifoimkjgepcaaDoorEd
set_option linter.unusedVariables false
set_option linter.unusedSimpArgs false
namespace Go.Proofs.YtjifoimkjgepcaaDoor.Da
open Go.RowKit Go.Proofs.YtjifoimkjgepcaaDoor.K

theorem less_leL : ∀ (x y : List UInt8), Op.bytesLess y x = false → leL (x.map UInt8.toNat) (y.map UInt8.toNat)
  | [], y, h => by cases y <;> simp [leL]
  | a :: x, [], h => by simp [Op.bytesLess] at h
  | a :: x, b :: y, h => by
    simp only [Op.bytesLess, Bool.or_eq_false_iff, Bool.and_eq_false_iff, decide_eq_false_iff_not, beq_eq_false_iff_ne] at h
    obtain ⟨h1, h2⟩ := h
    simp only [List.map_cons, leL]
    by_cases e : b = a
    · subst e
      exact .inr ⟨rfl, less_leL x y (by simpa using h2)⟩
    · left
      have h3 : ¬ b.toNat < a.toNat := fun h => h1 (UInt8.lt_iff_toNat_lt.2 h)
      have h4 : b.toNat ≠ a.toNat := fun h => e (UInt8.toNat.inj h)
      omega
theorem leL_trans : ∀ {x y z : List Nat}, leL x y → leL y z → leL x z
  | [], _, z, _, _ => by cases z <;> simp [leL]
  | _ :: _, [], _, h, _ => by simp [leL] at h
  | _ :: _, _ :: _, [], _, h => by simp [leL] at h
  | a :: x, b :: y, c :: z, h1, h2 => by
    simp only [leL] at h1 h2 ⊢
    rcases h1 with h1 | ⟨rfl, h1⟩
    · rcases h2 with h2 | ⟨rfl, h2⟩
      · exact .inl (by omega)
      · exact .inl h1
    · rcases h2 with h2 | ⟨rfl, h2⟩
      · exact .inl h2
      · exact .inr ⟨rfl, leL_trans h1 h2⟩
theorem leL_refl : ∀ (x : List Nat), leL x x
  | [] => by simp [leL]
  | a :: x => by unfold leL; exact .inr ⟨rfl, leL_refl x⟩
theorem ltB_leL {a b : ByteArray} (h : ltB b a = false) : leL (bl a) (bl b) := by
  unfold ltB at h
  rw [ByteArray.toList_eq, ByteArray.toList_eq] at h
  exact less_leL _ _ h
theorem Ord.le {xs : List ByteArray} {st : Bool} (h : Ord xs st) (i : Nat) : ∀ (d : Nat), i + d < xs.length → leL (bl (kAt xs i)) (bl (kAt xs (i + d)))
  | 0, _ => leL_refl _
  | d + 1, hd => by
    have h1 := Ord.le h i d (by omega)
    have h2 := ((h.2 (i + (d + 1)) hd).2.2 (by omega)).1
    rw [show i + (d + 1) - 1 = i + d from rfl] at h2
    exact leL_trans h1 (ltB_leL h2)
theorem pairwise_range {p : Nat → Nat → Prop} : ∀ n, (∀ i j, i < j → j < n → p i j) → (List.range n).Pairwise p := by
  intro n h
  rw [List.pairwise_iff_getElem]
  intro i j hi hj hij
  simp only [List.getElem_range]
  exact h i j hij (by simpa using hj)
theorem bl_le (s : ByteArray) : ∀ a ∈ bl s, a ≤ 255 := by
  intro a ha
  obtain ⟨b, _, rfl⟩ := List.mem_map.1 ha
  have := b.toNat_lt
  omega
theorem empty_toList {s : ByteArray} (h : s.toList.isEmpty = false) : bl s ≠ [] := by
  intro e
  have : s.data.toList = [] := List.map_eq_nil_iff.1 e
  rw [ByteArray.toList_eq, this] at h
  cases h
theorem cost_ks (keys : List ByteArray) (ids : List Int) : ∀ n, n ≤ keys.length → cost (ksOf keys ids 0 (List.range n)) + n = sumL (keys.take n)
  | 0, _ => by simp [ksOf, cost, sumL]
  | n + 1, h => by
    have ih := cost_ks keys ids n (by omega)
    have happ : ∀ a b : Ks, cost (a ++ b) = cost a + cost b := by
      intro a b
      induction a with
      | nil => simp [cost]
      | cons x r ih => obtain ⟨s, id⟩ := x; simp only [List.cons_append, cost, ih]; omega
    rw [sumL_take_succ (by omega), List.range_succ]
    unfold ksOf at ih ⊢
    rw [List.map_append, happ]
    simp only [List.map_cons, List.map_nil, cost, List.drop_zero, bl_length, kAt_eq (show n < keys.length by omega)] at ih ⊢
    omega
theorem size_le_sum {xs : List ByteArray} {s : ByteArray} (h : s ∈ xs) : s.size + 1 ≤ sumL xs := by
  induction xs with
  | nil => cases h
  | cons x r ih =>
    simp only [sumL]
    rcases List.mem_cons.1 h with rfl | h
    · omega
    · have := ih h; omega
theorem len_le_sum (xs : List ByteArray) : xs.length ≤ sumL xs := by
  induction xs with
  | nil => simp
  | cons x r ih => simp only [sumL, List.length_cons]; omega
/-- The keys that the laws let in can be built. -/
theorem keys_of' {keys : List ByteArray} {ids : List Int} {st : Bool} (ho : Ord keys st) (hi : ∀ x ∈ ids, 0 ≤ x ∧ x ≤ 2147483647) (hl : ids.length = keys.length) (hn : keys.length ≤ 4000) (hz : ∀ s ∈ keys, s.size ≤ 4000) (hs : sumL keys ≤ 8000) : Keys keys ids where
  ne := ho.1
  len := hn
  il := hl
  idr := hi
  sz := hz
  asc := fun i h => by
    have h2 := ((ho.2 (i + 1) h).2.2 (by omega)).1
    rw [show i + 1 - 1 = i by omega, kAt_eq h, kAt_eq (by omega)] at h2
    exact h2
  srt := by
    unfold Srt ksOf
    rw [List.pairwise_map]
    refine pairwise_range _ fun i j hij hj => ?_
    have := ho.le i (j - i) (by omega)
    rw [show i + (j - i) = j by omega] at this
    simpa using this
  byt := by
    intro x hx a ha
    obtain ⟨j, hj, rfl⟩ := List.mem_map.1 hx
    have hj' : j < keys.length := by simpa using hj
    simp only [List.drop_zero] at ha
    exact ⟨(ho.2 j hj').2.1 a ha, bl_le _ a ha⟩
  full := by
    rw [firstE_none]
    intro x hx
    obtain ⟨j, hj, rfl⟩ := List.mem_map.1 hx
    have hj' : j < keys.length := by simpa using hj
    simp only [List.drop_zero]
    exact empty_toList (ho.2 j hj').1
  cost := by
    have := cost_ks keys ids keys.length (Nat.le_refl _)
    rw [List.take_length] at this
    omega
theorem keys_of {keys : List ByteArray} {ids : List Int} {st : Bool} (ho : Ord keys st) (hi : ∀ x ∈ ids, 0 ≤ x ∧ x ≤ 2147483647) (hl : ids.length = keys.length) (hs : sumL keys ≤ 4000) : Keys keys ids :=
  keys_of' ho hi hl (Nat.le_trans (len_le_sum _) hs) (fun s h => by have := size_le_sum h; omega) (by omega)
end Go.Proofs.YtjifoimkjgepcaaDoor.Da
