/-
  Plain: the keys of an index, and how often each of them stands.
-/
import Derived.Test.YtjifoimkjgepcaaEw
set_option linter.unusedVariables false
set_option linter.unusedSimpArgs false
namespace Go.Proofs.Ytjifoimkjgepcaa.Da
open Go.RowKit Go.Proofs.Ytjifoimkjgepcaa.K

/-- What BuildIndexTable has gathered. -/
structure Ix where
  K : List ByteArray
  I : List Int
  no : Nat
  wd : ByteArray
  cnt : Nat → Nat
def bump (x : Ix) : Ix := { x with cnt := fun j => if j = x.no then x.cnt j + 1 else x.cnt j }
def stepI (x : Ix) (i : Nat) (key : ByteArray) : Ix := if key = x.wd then bump x else ⟨x.K ++ [key], x.I ++ [(i : Int)], i, key, x.cnt⟩
def ixF (ws : List ByteArray) : Nat → Ix
  | 0 => ⟨[], [], 0, ByteArray.empty, fun _ => 0⟩
  | i + 1 => stepI (ixF ws i) i (kAt ws i)
structure IxI (ws : List ByteArray) (i : Nat) (x : Ix) : Prop where
  len : x.I.length = x.K.length
  le : x.K.length ≤ i
  ids : ∀ z ∈ x.I, 0 ≤ z ∧ z < i
  last : 0 < i → x.wd = kAt ws (i - 1) ∧ 0 < x.K.length ∧ kAt x.K (x.K.length - 1) = x.wd ∧ x.no < i
  zero : i = 0 → x.wd = ByteArray.empty ∧ x.no = 0
  cz : ∀ j, i ≤ j → x.cnt j = 0
  cb : ∀ j, j < i → j + x.cnt j < i
  ok : ∀ j, j < x.K.length → OkAt x.K false j
  sum : sumL x.K ≤ sumL (ws.take i)
theorem kAt_left {K : List ByteArray} {key : ByteArray} {j : Nat} (h : j < K.length) : kAt (K ++ [key]) j = kAt K j := by
  rw [kAt_eq h, kAt_eq (by simp; omega), List.getElem_append_left h]
theorem kAt_last {K : List ByteArray} {key : ByteArray} : kAt (K ++ [key]) K.length = key := by
  rw [kAt_eq (by simp)]
  simp
theorem ne_empty {s : ByteArray} (h : s.toList.isEmpty = false) : s ≠ ByteArray.empty := by
  rintro rfl
  simp [ByteArray.toList_eq, ByteArray.empty, ByteArray.emptyWithCapacity] at h
  exact h rfl
theorem bytesLess_self : ∀ l : List UInt8, Op.bytesLess l l = false
  | [] => rfl
  | a :: l => by simp [Op.bytesLess, bytesLess_self l]
theorem ltB_self (a : ByteArray) : ltB a a = false := bytesLess_self _
theorem ixF_inv {ws : List ByteArray} (ho : Ord ws false) : ∀ i, i ≤ ws.length → IxI ws i (ixF ws i)
  | 0, _ => ⟨rfl, Nat.le_refl _, fun _ h => (nomatch h), fun h => absurd h (by omega), fun _ => ⟨rfl, rfl⟩, fun _ _ => rfl, fun j h => absurd h (by omega), fun j h => absurd h (by simp [ixF]), by simp [ixF, sumL]⟩
  | i + 1, hi => by
    have ih := ixF_inv ho i (by omega)
    have hok := ho.2 i (by omega)
    have hs : sumL (ws.take (i + 1)) = sumL (ws.take i) + (kAt ws i).size + 1 := by rw [sumL_take_succ (by omega), kAt_eq (by omega)]
    show IxI ws (i + 1) (stepI (ixF ws i) i (kAt ws i))
    generalize ixF ws i = x at ih
    unfold stepI
    by_cases e : kAt ws i = x.wd
    · rw [if_pos e]
      have hi0 : 0 < i := by
        rcases Nat.eq_zero_or_pos i with h | h
        · exact absurd (e.trans (ih.zero h).1) (ne_empty hok.1)
        · exact h
      obtain ⟨h1, h2, h3, h4⟩ := ih.last hi0
      refine ⟨ih.len, Nat.le_succ_of_le ih.le, fun z hz => ⟨(ih.ids z hz).1, by have := (ih.ids z hz).2; omega⟩, fun _ => ⟨e.symm, h2, h3, by show x.no < i + 1; omega⟩, fun h => absurd h (by omega), fun j hj => ?_, fun j hj => ?_, ih.ok, by show sumL x.K ≤ _; have := ih.sum; omega⟩
      · show (if j = x.no then x.cnt j + 1 else x.cnt j) = 0
        rw [if_neg (by omega)]
        exact ih.cz j (by omega)
      · show j + (if j = x.no then x.cnt j + 1 else x.cnt j) < i + 1
        by_cases hji : j < i
        · have := ih.cb j hji
          split <;> omega
        · rw [if_neg (by omega), ih.cz j (by omega)]
          omega
    · rw [if_neg e]
      refine ⟨by simp [ih.len], by have := ih.le; simp; omega, fun z hz => ?_, fun _ => ⟨rfl, by simp, by simp [kAt_last], by show i < i + 1; omega⟩, fun h => absurd h (by omega), fun j hj => ih.cz j (by omega), fun j hj => ?_, fun j hj => ?_, ?_⟩
      · rcases List.mem_append.1 hz with hz | hz
        · have := ih.ids z hz; omega
        · rw [List.mem_singleton.1 hz]; omega
      · show j + x.cnt j < i + 1
        by_cases hji : j < i
        · have := ih.cb j hji; omega
        · rw [ih.cz j (by omega)]; omega
      · show OkAt (x.K ++ [kAt ws i]) false j
        have hj' : j < x.K.length + 1 := by simpa using hj
        by_cases hjl : j < x.K.length
        · have h0 := ih.ok j hjl
          unfold OkAt at h0 ⊢
          rw [kAt_left hjl]
          refine ⟨h0.1, h0.2.1, fun hp => ⟨?_, fun h => (nomatch h)⟩⟩
          rw [kAt_left (by omega)]
          exact (h0.2.2 hp).1
        · obtain rfl : j = x.K.length := by omega
          unfold OkAt
          rw [kAt_last]
          refine ⟨hok.1, hok.2.1, fun hp => ⟨?_, fun h => (nomatch h)⟩⟩
          have hi0 : 0 < i := by have := ih.le; omega
          obtain ⟨h1, h2, h3, h4⟩ := ih.last hi0
          rw [kAt_left (by omega), h3, h1]
          exact (hok.2.2 hi0).1
      · show sumL (x.K ++ [kAt ws i]) ≤ _
        rw [sumL_append, hs]
        have := ih.sum
        simp only [sumL]
        omega
/-- An index of words. -/
def ixOf (ws : List ByteArray) : Ix := ixF ws ws.length
theorem ixOf_keys {ws : List ByteArray} (ho : Ord ws false) (hl : ws.length ≤ 2147483647) (hs : sumL (ixOf ws).K ≤ 4000) : Keys (ixOf ws).K (ixOf ws).I := by
  have h := ixF_inv ho ws.length (Nat.le_refl _)
  have hp : 0 < ws.length := List.length_pos_iff.2 ho.1
  exact keys_of (st := false) ⟨List.length_pos_iff.1 (h.last hp).2.1, h.ok⟩ (fun z hz => by have := h.ids z hz; omega) h.len hs

/-- The places of a key that stands n times more. -/
def rng (a : Int) (n : Nat) : List Int := (List.range (n + 1)).map fun (k : Nat) => a + (k : Int)
theorem rng_length (a : Int) (n : Nat) : (rng a n).length = n + 1 := by simp [rng]
def listsF (cnt : Nat → Nat) (H : List (Int × Int)) : List (List Int) := H.map fun h => rng h.1 (cnt h.1.toNat)
def callsF (cnt : Nat → Nat) (H : List (Int × Int)) : List (Int × Int) := H.flatMap fun h => (rng h.1 (cnt h.1.toNat)).map fun i => (i, h.2)
abbrev IAns := List Int × (List Int × (List (List Int) × List (Int × Int)))
def idsF (cnt : Nat → Nat) (f : Int × Bool) : List Int := if f.2 = true then rng f.1 (cnt f.1.toNat) else []
def ansI (x : Ix) (s : ByteArray) : IAns := (idsF x.cnt (findF (ksAll x.K x.I) (bl s)), (hitsF (ksAll x.K x.I) (bl s) 0).map (·.2), listsF x.cnt (hitsF (ksAll x.K x.I) (bl s) 0), callsF x.cnt (hitsF (ksAll x.K x.I) (bl s) 0))

/-- Each word twice. -/
def tw : List ByteArray → List ByteArray
  | [] => []
  | a :: r => a :: a :: tw r
theorem tw_length : ∀ ws, (tw ws).length = 2 * ws.length
  | [] => rfl
  | a :: r => by rw [tw, List.length_cons, List.length_cons, tw_length r, List.length_cons]; omega
theorem tw_append : ∀ a b, tw (a ++ b) = tw a ++ tw b
  | [], b => rfl
  | x :: a, b => by rw [List.cons_append, tw, tw, tw_append a b]; rfl
theorem tw_at : ∀ (ws : List ByteArray) (i : Nat), kAt (tw ws) (2 * i) = kAt ws i ∧ kAt (tw ws) (2 * i + 1) = kAt ws i
  | [], i => by simp [tw, kAt]
  | a :: r, 0 => ⟨rfl, rfl⟩
  | a :: r, i + 1 => by
    obtain ⟨h1, h2⟩ := tw_at r i
    rw [show 2 * (i + 1) = 2 * i + 1 + 1 by omega]
    exact ⟨h1, h2⟩
theorem tw_sum : ∀ ws, sumL (tw ws) = 2 * sumL ws
  | [] => rfl
  | a :: r => by simp only [tw, sumL, tw_sum r]; omega
theorem tw_ord {ws : List ByteArray} (ho : Ord ws false) : Ord (tw ws) false := by
  refine ⟨?_, fun j hj => ?_⟩
  · obtain ⟨a, r, rfl⟩ := List.exists_cons_of_ne_nil ho.1
    simp [tw]
  · rw [tw_length] at hj
    obtain ⟨i, hi | hi⟩ : ∃ i, j = 2 * i ∨ j = 2 * i + 1 := ⟨j / 2, by omega⟩
    · subst hi
      have h := ho.2 i (by omega)
      unfold OkAt
      rw [(tw_at ws i).1]
      refine ⟨h.1, h.2.1, fun hp => ⟨?_, fun h => (nomatch h)⟩⟩
      rw [show 2 * i - 1 = 2 * (i - 1) + 1 by omega, (tw_at ws (i - 1)).2]
      exact (h.2.2 (by omega)).1
    · subst hi
      have h := ho.2 i (by omega)
      unfold OkAt
      rw [(tw_at ws i).2]
      refine ⟨h.1, h.2.1, fun hp => ⟨?_, fun h => (nomatch h)⟩⟩
      rw [show 2 * i + 1 - 1 = 2 * i by omega, (tw_at ws i).1]
      exact ltB_self _
structure TwR (i : Nat) (x y : Ix) : Prop where
  K : y.K = x.K
  I : y.I = x.I.map fun z => 2 * z
  wd : y.wd = x.wd
  no : y.no = 2 * x.no
  cz : ∀ j, 2 * i ≤ j → y.cnt j = 0
  c : ∀ z ∈ x.I, y.cnt (2 * z.toNat) = 2 * x.cnt z.toNat + 1
theorem tw_rel {ws : List ByteArray} (ho : Ord ws false) : ∀ i, i ≤ ws.length → TwR i (ixF ws i) (ixF (tw ws) (2 * i))
  | 0, _ => ⟨rfl, rfl, rfl, rfl, fun _ _ => rfl, fun _ h => (nomatch h)⟩
  | i + 1, hi => by
    have ih := tw_rel ho i (by omega)
    have iv := ixF_inv ho i (by omega)
    have hok := ho.2 i (by omega)
    rw [show 2 * (i + 1) = 2 * i + 1 + 1 by omega]
    show TwR (i + 1) (stepI (ixF ws i) i (kAt ws i)) (stepI (stepI (ixF (tw ws) (2 * i)) (2 * i) (kAt (tw ws) (2 * i))) (2 * i + 1) (kAt (tw ws) (2 * i + 1)))
    rw [(tw_at ws i).1, (tw_at ws i).2]
    generalize ixF ws i = x at ih iv
    generalize ixF (tw ws) (2 * i) = y at ih
    unfold stepI
    by_cases e : kAt ws i = x.wd
    · have hi0 : 0 < i := by
        rcases Nat.eq_zero_or_pos i with h | h
        · exact absurd (e.trans (iv.zero h).1) (ne_empty hok.1)
        · exact h
      have hno := (iv.last hi0).2.2.2
      rw [if_pos e, if_pos (e.trans ih.wd.symm), if_pos (show kAt ws i = (bump y).wd from e.trans ih.wd.symm)]
      refine ⟨ih.K, ih.I, ih.wd, ih.no, fun j hj => ?_, fun z hz => ?_⟩
      · show (if j = y.no then (if j = y.no then y.cnt j + 1 else y.cnt j) + 1 else (if j = y.no then y.cnt j + 1 else y.cnt j)) = 0
        have := ih.no
        rw [if_neg (by omega), if_neg (by omega)]
        exact ih.cz j (by omega)
      · have h1 := ih.c z hz
        have h2 := (iv.ids z hz).1
        have h3 := ih.no
        show (if 2 * z.toNat = y.no then (if 2 * z.toNat = y.no then y.cnt (2 * z.toNat) + 1 else y.cnt (2 * z.toNat)) + 1 else (if 2 * z.toNat = y.no then y.cnt (2 * z.toNat) + 1 else y.cnt (2 * z.toNat))) = 2 * (if z.toNat = x.no then x.cnt z.toNat + 1 else x.cnt z.toNat) + 1
        by_cases hz2 : z.toNat = x.no
        · have hz3 : 2 * z.toNat = y.no := by omega
          simp only [if_pos hz2, if_pos hz3]
          omega
        · have hz3 : ¬ 2 * z.toNat = y.no := by omega
          simp only [if_neg hz2, if_neg hz3]
          omega
    · have e' : ¬ kAt ws i = y.wd := by rw [ih.wd]; exact e
      rw [if_neg e, if_neg e']
      simp only
      rw [if_pos trivial]
      refine ⟨by show y.K ++ _ = x.K ++ _; rw [ih.K], by show y.I ++ _ = (x.I ++ _).map _; rw [ih.I, List.map_append]; simp, rfl, rfl, fun j hj => ?_, fun z hz => ?_⟩
      · show (if j = 2 * i then y.cnt j + 1 else y.cnt j) = 0
        rw [if_neg (by omega)]
        exact ih.cz j (by omega)
      · show (if 2 * z.toNat = 2 * i then y.cnt (2 * z.toNat) + 1 else y.cnt (2 * z.toNat)) = 2 * x.cnt z.toNat + 1
        rcases List.mem_append.1 hz with hz | hz
        · have h2 := iv.ids z hz
          rw [if_neg (by omega)]
          exact ih.c z hz
        · rw [List.mem_singleton.1 hz]
          have h5 : 2 * (i : Int).toNat = 2 * i := by simp
          rw [if_pos h5, h5, ih.cz _ (Nat.le_refl _), show (i : Int).toNat = i by simp, iv.cz _ (Nat.le_refl _)]
theorem range_twice (a : Int) : ∀ m, (List.range (2 * m)).map (fun (k : Nat) => 2 * a + (k : Int)) = ((List.range m).map fun (k : Nat) => a + (k : Int)).flatMap fun z => [2 * z, 2 * z + 1]
  | 0 => rfl
  | m + 1 => by
    rw [show 2 * (m + 1) = 2 * m + 1 + 1 by omega, List.range_succ, List.range_succ, List.range_succ (n := m), List.map_append, List.map_append, List.map_append, List.flatMap_append, range_twice a m, List.append_assoc]
    congr 1
    simp
    omega
theorem rng_twice (a : Int) (n : Nat) : rng (2 * a) (2 * n + 1) = (rng a n).flatMap fun z => [2 * z, 2 * z + 1] := range_twice a (n + 1)
def mapK (f : Int → Int) (ks : Ks) : Ks := ks.map fun e => (e.1, f e.2)
theorem tails_mapK (f : Int → Int) (ch : Nat) : ∀ ks, tails ch (mapK f ks) = mapK f (tails ch ks)
  | [] => rfl
  | ([], _) :: r => by
    have := tails_mapK f ch r
    simpa [mapK, tails] using this
  | (c :: s, id) :: r => by
    have := tails_mapK f ch r
    unfold mapK at this ⊢
    rw [List.map_cons, tails, tails, this]
    split <;> simp
theorem firstE_mapK (f : Int → Int) : ∀ ks, firstE (mapK f ks) = (firstE ks).map f
  | [] => rfl
  | ([], id) :: r => by simp [mapK, firstE]
  | (c :: s, id) :: r => by
    have := firstE_mapK f r
    simpa [mapK, firstE] using this
theorem hits_mapK (f : Int → Int) : ∀ (s : List Nat) (ks : Ks) (i : Nat), hitsF (mapK f ks) s i = (hitsF ks s i).map fun h => (f h.1, h.2)
  | [], _, _ => rfl
  | a :: s, ks, i => by
    rw [hitsF, hitsF, tails_mapK, hits_mapK f s, List.map_append]
    congr 1
    unfold hitAt
    rw [firstE_mapK]
    cases firstE (tails a ks) <;> rfl
theorem hits_mem : ∀ (s : List Nat) (ks : Ks) (i : Nat) (h : Int × Int), h ∈ hitsF ks s i → ∃ p, (p, h.1) ∈ ks
  | [], _, _, _, hh => by cases hh
  | a :: s, ks, i, h, hh => by
    rw [hitsF] at hh
    rcases List.mem_append.1 hh with hh | hh
    · unfold hitAt at hh
      cases hf : firstE (tails a ks) with
      | none => rw [hf] at hh; cases hh
      | some id =>
        rw [hf] at hh
        rw [List.mem_singleton.1 hh]
        exact ⟨_, mem_tails.1 (firstE_some hf)⟩
    · obtain ⟨p, hp⟩ := hits_mem s _ _ h hh
      exact ⟨_, mem_tails.1 hp⟩
theorem ks_map (f : Int → Int) (hf : f 0 = 0) (K : List ByteArray) (I : List Int) : ksAll K (I.map f) = mapK f (ksAll K I) := by
  unfold ksAll ksOf mapK
  rw [List.map_map]
  apply List.map_congr_left
  intro j _
  simp only [Function.comp]
  congr 1
  unfold idAt
  by_cases h : j < I.length
  · simp [List.getD, h]
  · simp [List.getD, h, hf]
theorem mem_ids {K : List ByteArray} {I : List Int} (hl : I.length = K.length) {p : List Nat} {id : Int} (h : (p, id) ∈ ksAll K I) : id ∈ I := by
  obtain ⟨j, hj, he⟩ := List.mem_map.1 h
  have hj' : j < I.length := by rw [hl]; simpa using hj
  simp only [Prod.mk.injEq] at he
  rw [← he.2, idAt_eq hj']
  exact List.getElem_mem _
def twL (l : List Int) : List Int := l.flatMap fun z => [2 * z, 2 * z + 1]
/-- With each word twice each place is two ones. -/
theorem twice_ans {ws : List ByteArray} (ho : Ord ws false) (s : ByteArray) : (ansI (ixOf (tw ws)) s).2.1 = (ansI (ixOf ws) s).2.1 ∧ (ansI (ixOf (tw ws)) s).2.2.1 = (ansI (ixOf ws) s).2.2.1.map twL := by
  have hr := tw_rel ho ws.length (Nat.le_refl _)
  have hi := ixF_inv ho ws.length (Nat.le_refl _)
  have e : ixOf (tw ws) = ixF (tw ws) (2 * ws.length) := by unfold ixOf; rw [tw_length]
  rw [e]
  unfold ixOf
  generalize ixF ws ws.length = x at hr hi
  generalize ixF (tw ws) (2 * ws.length) = y at hr
  have hk : ksAll y.K y.I = mapK (fun z => 2 * z) (ksAll x.K x.I) := by rw [hr.K, hr.I, ks_map _ (by rfl)]
  unfold ansI
  simp only
  rw [hk, hits_mapK]
  refine ⟨by rw [List.map_map]; rfl, ?_⟩
  unfold listsF
  rw [List.map_map, List.map_map]
  apply List.map_congr_left
  intro h hh
  obtain ⟨p, hp⟩ := hits_mem _ _ _ _ hh
  have hm := mem_ids hi.len hp
  have h0 := (hi.ids _ hm).1
  simp only [Function.comp]
  rw [show (2 * h.1).toNat = 2 * h.1.toNat by omega, hr.c _ hm, rng_twice]
  rfl
theorem tw_K {ws : List ByteArray} (ho : Ord ws false) : (ixOf (tw ws)).K = (ixOf ws).K := by
  have e : ixOf (tw ws) = ixF (tw ws) (2 * ws.length) := by unfold ixOf; rw [tw_length]
  rw [e]
  exact (tw_rel ho ws.length (Nat.le_refl _)).K
theorem ixOf_sum {ws : List ByteArray} (ho : Ord ws false) : sumL (ixOf ws).K ≤ sumL ws := by
  have := (ixF_inv ho ws.length (Nat.le_refl _)).sum
  rwa [List.take_length] at this
end Go.Proofs.Ytjifoimkjgepcaa.Da
