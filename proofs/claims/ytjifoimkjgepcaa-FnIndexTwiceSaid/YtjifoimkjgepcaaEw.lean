/-
  Plain: without one of its keys a trie tells all the others.
-/
import Derived.Test.YtjifoimkjgepcaaEl
set_option linter.unusedVariables false
set_option linter.unusedSimpArgs false
namespace Go.Proofs.Ytjifoimkjgepcaa.Da
open Go.RowKit Go.Proofs.Ytjifoimkjgepcaa.K

theorem ks_cons (x : ByteArray) (xs : List ByteArray) (i : Int) (is : List Int) : ksAll (x :: xs) (i :: is) = (bl x, i) :: ksAll xs is := by
  unfold ksAll ksOf
  rw [List.length_cons, List.range_succ_eq_map, List.map_cons, List.map_map]
  congr 1
theorem ks_append : ∀ (a : List ByteArray) (c : List Int) (b : List ByteArray) (d : List Int), a.length = c.length → ksAll (a ++ b) (c ++ d) = ksAll a c ++ ksAll b d
  | [], [], b, d, _ => rfl
  | x :: a, i :: c, b, d, h => by
    rw [List.cons_append, List.cons_append, ks_cons, ks_cons, ks_append a c b d (by simpa using h), List.cons_append]
  | [], _ :: _, _, _, h => by simp at h
  | _ :: _, [], _, _, h => by simp at h
theorem walk_snoc (p : List Nat) (a : Nat) (ks : Ks) : walkK (p ++ [a]) ks = tails a (walkK p ks) := by
  rw [walkK_append]
  rfl
theorem find_mid {P Q : Ks} {y : List Nat × Int} {f : List Nat × Int → Bool} (h : f y = false) : (P ++ y :: Q).find? f = (P ++ Q).find? f := by
  rw [List.find?_append, List.find?_append, List.find?_cons, h]
theorem hits_without {P Q : Ks} {x : List Nat} {id : Int} (hP : ∀ y ∈ P, y.1 ≠ x) (hQ : ∀ y ∈ Q, y.1 ≠ x) : ∀ (s p : List Nat),
    hitsF (walkK p (P ++ Q)) s p.length = (hitsF (walkK p (P ++ (x, id) :: Q)) s p.length).filter fun h => decide ((p ++ s).take h.2.toNat ≠ x)
  | [], p => by simp [hitsF]
  | a :: s, p => by
    have ih := hits_without (id := id) hP hQ s (p ++ [a])
    rw [hitsF, hitsF, ← walk_snoc, ← walk_snoc, List.filter_append]
    have hl : (p ++ [a]).length = p.length + 1 := by simp
    rw [hl] at ih
    rw [show p ++ [a] ++ s = p ++ a :: s by simp] at ih
    rw [ih]
    congr 1
    have ht : (p ++ a :: s).take (p.length + 1) = p ++ [a] := by
      rw [show p ++ a :: s = (p ++ [a]) ++ s by simp, ← hl, List.take_left]
    unfold hitAt
    rw [firstE_walk, firstE_walk]
    by_cases e : p ++ [a] = x
    · have h1 : (P ++ Q).find? (fun y => decide (y.1 = p ++ [a])) = none := by
        rw [List.find?_eq_none]
        intro y hy
        rw [e]
        rcases List.mem_append.1 hy with hy | hy
        · simpa using hP y hy
        · simpa using hQ y hy
      have h2 : (P ++ (x, id) :: Q).find? (fun y => decide (y.1 = p ++ [a])) = some (x, id) := by
        have h3 : P.find? (fun y => decide (y.1 = p ++ [a])) = none := by
          rw [List.find?_eq_none]
          intro y hy
          rw [e]
          simpa using hP y hy
        rw [List.find?_append, h3, List.find?_cons]
        simp [e]
      rw [h1, h2]
      simp only [Option.map_none, Option.map_some]
      rw [List.filter_cons, List.filter_nil]
      rw [show (((p.length + 1 : Nat) : Int)).toNat = p.length + 1 by omega, ht]
      simp [e]
    · rw [find_mid (y := (x, id)) (by simpa using fun h => e h.symm)]
      cases (P ++ Q).find? (fun y => decide (y.1 = p ++ [a])) with
      | none => rfl
      | some y =>
        simp only [Option.map_some]
        rw [List.filter_cons, List.filter_nil]
        rw [show (((p.length + 1 : Nat) : Int)).toNat = p.length + 1 by omega, ht]
        simp [e]
theorem kAt_append {a b : List ByteArray} {j : Nat} : kAt (a ++ b) j = if j < a.length then kAt a j else kAt b (j - a.length) := by
  unfold kAt
  split
  · next h => simp [List.getD, List.getElem?_append_left h]
  · next h => simp [List.getD, List.getElem?_append_right (Nat.le_of_not_lt h)]
theorem less_back : ∀ (x y : List UInt8), leL (x.map UInt8.toNat) (y.map UInt8.toNat) → Op.bytesLess y x = false
  | [], y, h => by cases y <;> rfl
  | a :: x, [], h => by simp [leL] at h
  | a :: x, b :: y, h => by
    simp only [List.map_cons, leL] at h
    simp only [Op.bytesLess, Bool.or_eq_false_iff, Bool.and_eq_false_iff, decide_eq_false_iff_not, beq_eq_false_iff_ne]
    rcases h with h | ⟨h, h2⟩
    · refine ⟨fun h3 => by have := UInt8.lt_iff_toNat_lt.1 h3; omega, .inl fun e => by rw [e] at h; omega⟩
    · have e : a = b := UInt8.toNat.inj h
      subst e
      exact ⟨fun h3 => by have := UInt8.lt_iff_toNat_lt.1 h3; omega, .inr (less_back x y h2)⟩
theorem leL_ltB {a b : ByteArray} (h : leL (bl a) (bl b)) : ltB b a = false := by
  unfold ltB
  rw [ByteArray.toList_eq, ByteArray.toList_eq]
  exact less_back _ _ h
theorem ltB_trans' {a b c : ByteArray} (h1 : ltB c b = false) (h2 : ltB b a = false) : ltB c a = false := leL_ltB (leL_trans (ltB_leL h2) (ltB_leL h1))
/-- Strictly ascending: no key twice. -/
theorem Ord.ne {keys : List ByteArray} (h : Ord keys true) {i j : Nat} (hij : i < j) (hj : j < keys.length) : kAt keys i ≠ kAt keys j := by
  intro e
  have h1 := h.le i (j - 1 - i) (by omega)
  rw [show i + (j - 1 - i) = j - 1 by omega, e] at h1
  have h2 := (h.2 j hj).2.2 (by omega)
  have h3 := ltB_leL h2.1
  have h4 : kAt keys (j - 1) = kAt keys j := bl_inj (leL_antisymm h3 h1)
  have h5 := h2.2 rfl
  rw [h4] at h5
  simp at h5

/-- The keys without one. -/
def lessK (keys : List ByteArray) (k : Nat) : List ByteArray := keys.take k ++ keys.drop (k + 1)
def lessI (ids : List Int) (k : Nat) : List Int := ids.take k ++ ids.drop (k + 1)
theorem kAt_less {keys : List ByteArray} {k j : Nat} (hk : k < keys.length) : kAt (lessK keys k) j = kAt keys (if j < k then j else j + 1) := by
  have hl : (keys.take k).length = k := by rw [List.length_take]; omega
  unfold lessK
  rw [kAt_append, hl]
  split
  · next h => unfold kAt; simp [List.getD, List.getElem?_take, h]
  · next h => unfold kAt; simp only [List.getD, List.getElem?_drop]; rw [show k + 1 + (j - k) = j + 1 by omega]
theorem less_length {keys : List ByteArray} {k : Nat} (hk : k < keys.length) : (lessK keys k).length = keys.length - 1 := by
  unfold lessK
  rw [List.length_append, List.length_take, List.length_drop]
  omega
theorem lessI_length {ids : List Int} {k : Nat} (hk : k < ids.length) : (lessI ids k).length = ids.length - 1 := by
  unfold lessI
  rw [List.length_append, List.length_take, List.length_drop]
  omega
theorem ord_less {keys : List ByteArray} {k : Nat} (h : Ord keys true) (hk : k < keys.length) (h2 : 2 ≤ keys.length) : Ord (lessK keys k) false := by
  have hl := less_length hk
  refine ⟨fun e => by rw [e] at hl; simp at hl; omega, fun i hi => ?_⟩
  rw [hl] at hi
  unfold OkAt
  rw [kAt_less hk, kAt_less hk]
  have hi1 : (if i < k then i else i + 1) < keys.length := by split <;> omega
  refine ⟨(h.2 _ hi1).1, (h.2 _ hi1).2.1, fun h0 => ⟨?_, by simp⟩⟩
  by_cases c1 : i < k
  · rw [if_pos c1, if_pos (by omega)]
    exact ((h.2 i (by omega)).2.2 h0).1
  · rw [if_neg c1]
    by_cases c2 : i - 1 < k
    · rw [if_pos c2]
      have e : i = k := by omega
      subst e
      have a1 := ((h.2 (i + 1) (by omega)).2.2 (by omega)).1
      have a2 := ((h.2 i (by omega)).2.2 h0).1
      rw [show i + 1 - 1 = i from rfl] at a1
      exact ltB_trans' a1 a2
    · rw [if_neg c2]
      have a1 := ((h.2 (i + 1) (by omega)).2.2 (by omega)).1
      rw [show i + 1 - 1 = i - 1 + 1 by omega] at a1
      exact a1
/-- The hits without a key are those that are not it. -/
theorem hits_less {keys : List ByteArray} {ids : List Int} {k : Nat} (s : ByteArray) (h : Ord keys true) (hl : ids.length = keys.length) (hk : k < keys.length) :
    hitsF (ksAll (lessK keys k) (lessI ids k)) (bl s) 0 = (hitsF (ksAll keys ids) (bl s) 0).filter fun x => decide ((bl s).take x.2.toNat ≠ bl (kAt keys k)) := by
  have hlt : (keys.take k).length = (ids.take k).length := by rw [List.length_take, List.length_take, hl]
  have e1 : ksAll (lessK keys k) (lessI ids k) = ksAll (keys.take k) (ids.take k) ++ ksAll (keys.drop (k + 1)) (ids.drop (k + 1)) := ks_append _ _ _ _ hlt
  have hki : k < ids.length := by omega
  have e2 : ksAll keys ids = ksAll (keys.take k) (ids.take k) ++ (bl (kAt keys k), ids[k]) :: ksAll (keys.drop (k + 1)) (ids.drop (k + 1)) := by
    have := ks_append (keys.take k) (ids.take k) (keys[k] :: keys.drop (k + 1)) (ids[k] :: ids.drop (k + 1)) hlt
    rw [ks_cons, List.getElem_cons_drop, List.getElem_cons_drop, List.take_append_drop, List.take_append_drop] at this
    rw [kAt_eq hk]
    exact this
  rw [e1, e2]
  refine hits_without (x := bl (kAt keys k)) (id := ids[k]) ?_ ?_ (bl s) []
  · intro y hy e
    obtain ⟨j, hj, rfl⟩ := mem_ks.1 hy
    have hj' : j < k := by rw [List.length_take] at hj; omega
    have : kAt (keys.take k) j = kAt keys j := by unfold kAt; simp [List.getD, List.getElem?_take, hj']
    rw [this] at e
    exact h.ne hj' hk (bl_inj e)
  · intro y hy e
    obtain ⟨j, hj, rfl⟩ := mem_ks.1 hy
    have hj' : k + 1 + j < keys.length := by rw [List.length_drop] at hj; omega
    have : kAt (keys.drop (k + 1)) j = kAt keys (k + 1 + j) := by unfold kAt; simp [List.getD, List.getElem?_drop]
    rw [this] at e
    exact h.ne (show k < k + 1 + j by omega) hj' (bl_inj e).symm
end Go.Proofs.Ytjifoimkjgepcaa.Da
