import Derived.Test.YtjifoimkjgepcaaDoorEg
import Derived.Test.YtjifoimkjgepcaaDoorGd
import Derived.Outline
import Derived.Deep.QuietTactic
import Derived.BigQuiet
/-
  The walks of spec.dBegins and spec.Half.
-/
set_option linter.unusedVariables false
set_option linter.unusedSimpArgs false
namespace Go.Proofs.YtjifoimkjgepcaaDoor.Da
open Go.RowKit Go.ChangeShapes Go.Proofs.YtjifoimkjgepcaaDoor.K Go.Proofs.YtjifoimkjgepcaaDoorW.PrintWords

/-- Whether a text begins with another one, as the code reckons it. -/
def begB (a b : ByteArray) : Bool := decide (b.size ≤ a.size) && ((a.extract 0 b.size).toList == b.toList)
theorem begB_no {a b : ByteArray} (h : begB a b = false) : ¬ bl b <+: bl a := by
  intro hp
  have hl : b.size ≤ a.size := by have := hp.length_le; rw [bl_length, bl_length] at this; exact this
  have hd : b.data.toList = a.data.toList.take b.size := by
    have h1 := List.prefix_iff_eq_take.1 hp
    rw [bl_length] at h1
    unfold bl at h1
    rw [← List.map_take] at h1
    exact (List.map_inj_right (fun x y h => UInt8.toNat.inj h)).1 h1
  unfold begB at h
  rw [decide_eq_true hl, Bool.true_and, beq_eq_false_iff_ne, ByteArray.toList_eq, ByteArray.toList_eq] at h
  apply h
  rw [hd]
  simp
/-- Why an input is no half. -/
def HalfNo (keys : List ByteArray) (s : ByteArray) : Prop := (s ∈ keys ∧ s.toList.isEmpty = false) ∨ ∀ k ∈ keys, ¬ bl s <+: bl k
def HalfRet (keys : List ByteArray) (s : ByteArray) (w : World) (e : Ending) (w' : World) : Prop := ∃ b : Bool, e = .returned (.bool b) ∧ (b = false → HalfNo keys s) ∧ w = w'
end Go.Proofs.YtjifoimkjgepcaaDoor.Da

/-
  The walk of laws.FnTrieMisses.
-/
set_option linter.unusedVariables false
set_option linter.unusedSimpArgs false
namespace Go.Proofs.YtjifoimkjgepcaaDoor.Da
open Go.RowKit Go.ChangeShapes Go.Proofs.YtjifoimkjgepcaaDoor.K Go.Proofs.YtjifoimkjgepcaaDoorW.PrintWords

theorem mem_ks {keys : List ByteArray} {ids : List Int} {x : List Nat × Int} : x ∈ ksAll keys ids ↔ ∃ j, j < keys.length ∧ x = (bl (kAt keys j), idAt ids j) := by
  unfold ksAll ksOf
  rw [List.mem_map]
  constructor
  · rintro ⟨j, hj, rfl⟩
    exact ⟨j, by simpa using hj, by simp⟩
  · rintro ⟨j, hj, rfl⟩
    exact ⟨j, by simpa using hj, by simp⟩
theorem bl_inj {a b : ByteArray} (h : bl a = bl b) : a = b := by
  apply ba_toList
  rw [ByteArray.toList_eq, ByteArray.toList_eq]
  exact (List.map_inj_right (fun x y h => UInt8.toNat.inj h)).1 h
theorem bl_nil {s : ByteArray} (h : bl s = []) : s.toList.isEmpty = true := by
  have : s.data.toList = [] := List.map_eq_nil_iff.1 h
  rw [ByteArray.toList_eq, this]
  rfl
theorem key_at {keys : List ByteArray} {s : ByteArray} (h : s ∈ keys) : ∃ j, j < keys.length ∧ kAt keys j = s := by
  obtain ⟨j, hj, rfl⟩ := List.mem_iff_getElem.1 h
  exact ⟨j, hj, kAt_eq hj⟩
theorem at_key {keys : List ByteArray} {j : Nat} (h : j < keys.length) : kAt keys j ∈ keys := by
  rw [kAt_eq h]
  exact List.getElem_mem h
theorem misses_law {keys : List ByteArray} {ids : List Int} {st : Bool} {s : ByteArray} (ho : Ord keys st) (hh : HalfNo keys s) : (findF (ksAll keys ids) (bl s)).2 = memB s keys := by
  have hin : s ∈ keys → walkK (bl s) (ksAll keys ids) ≠ [] ∧ bl s ≠ [] := by
    intro h
    obtain ⟨j, hj, e⟩ := key_at h
    refine ⟨?_, ?_⟩
    · intro e2
      have : (([] : List Nat), idAt ids j) ∈ walkK (bl s) (ksAll keys ids) := mem_walkK.2 (mem_ks.2 ⟨j, hj, by rw [e, List.append_nil]⟩)
      rw [e2] at this
      cases this
    · intro e2
      have := (ho.2 j hj).1
      rw [e, bl_nil e2] at this
      cases this
  unfold findF
  split
  · next h =>
    rw [memB_false]
    intro hm
    exact (hin hm).2 h
  · next h =>
    split
    · next h2 =>
      rw [memB_false]
      intro hm
      exact (hin hm).1 h2
    · next h2 =>
      rw [memB_true]
      rcases hh with ⟨hm, _⟩ | hn
      · exact hm
      · exfalso
        obtain ⟨⟨r, id⟩, hx⟩ := List.exists_mem_of_ne_nil _ h2
        obtain ⟨j, hj, e⟩ := mem_ks.1 (mem_walkK.1 hx)
        injection e with e1 e2
        exact hn _ (at_key hj) ⟨r, e1⟩

end Go.Proofs.YtjifoimkjgepcaaDoor.Da

/-
  The walks of laws.sameFound and laws.sameTrie (where both are equal).
-/
set_option linter.unusedVariables false
set_option linter.unusedSimpArgs false
namespace Go.Proofs.YtjifoimkjgepcaaDoor.Da
open Go.RowKit Go.ChangeShapes Go.Proofs.YtjifoimkjgepcaaDoor.K Go.Proofs.YtjifoimkjgepcaaDoorW.PrintWords

/-- An answer as a value. -/
def ansV (a : Ans) (A1 A2 : Option Addr) (c1 c2 : Nat) : Value := .agg #[.int .i64 a.1.1, .bool a.1.2, .int .i64 a.2.1.1, .bool a.2.1.2, .slice A1 a.2.2.1.length c1, .slice A2 a.2.2.2.length c2]
/-- Two answers lie in memory, and their lists. -/
structure Two (w0 : World) (a : Ans) (A1 A2 B1 B2 : Option Addr) (c1 c2 d1 d2 p q : Nat) (w : World) : Prop where
  bel : Below w0.heap.size w0 w
  at1 : AnsAt p (.int .i64 a.1.1) (.bool a.1.2) (.int .i64 a.2.1.1) (.bool a.2.1.2) (.slice A1 a.2.2.1.length c1) (.slice A2 a.2.2.2.length c2) w
  at2 : AnsAt q (.int .i64 a.1.1) (.bool a.1.2) (.int .i64 a.2.1.1) (.bool a.2.1.2) (.slice B1 a.2.2.1.length d1) (.slice B2 a.2.2.2.length d2) w
  c1 : kHit.C w A1 a.2.2.1.length a.2.2.1
  c2 : kHit.C w A2 a.2.2.2.length a.2.2.2
  d1 : kHit.C w B1 a.2.2.1.length a.2.2.1
  d2 : kHit.C w B2 a.2.2.2.length a.2.2.2
theorem Two.below {w0 : World} {a : Ans} {A1 A2 B1 B2 : Option Addr} {c1 c2 d1 d2 p q : Nat} {w w' : World} (h : Two w0 a A1 A2 B1 B2 c1 c2 d1 d2 p q w) (hb : Below w.heap.size w w') : Two w0 a A1 A2 B1 B2 c1 c2 d1 d2 p q w' :=
  ⟨h.bel.trans (hb.mono h.bel.size), h.at1.below hb, h.at2.below hb, Kd.C_below h.c1 hb, Kd.C_below h.c2 hb, Kd.C_below h.d1 hb, Kd.C_below h.d2 hb⟩
end Go.Proofs.YtjifoimkjgepcaaDoor.Da

/-
  The walk of laws.FnTrieTwice.
-/
set_option linter.unusedVariables false
set_option linter.unusedSimpArgs false
namespace Go.Proofs.YtjifoimkjgepcaaDoor.Da
open Go.RowKit Go.ChangeShapes Go.Proofs.YtjifoimkjgepcaaDoor.K Go.Proofs.YtjifoimkjgepcaaDoorW.PrintWords

theorem ord_noZ {keys : List ByteArray} {st : Bool} (h : Ord keys st) {s : ByteArray} (hs : s ∈ keys) : noZ s := by
  obtain ⟨j, hj, rfl⟩ := key_at hs
  exact (h.2 j hj).2.1
theorem leL_antisymm : ∀ {x y : List Nat}, leL x y → leL y x → x = y
  | [], [], _, _ => rfl
  | [], _ :: _, _, h => by simp [leL] at h
  | _ :: _, [], h, _ => by simp [leL] at h
  | a :: x, b :: y, h1, h2 => by
    simp only [leL] at h1 h2
    rcases h1 with h1 | ⟨rfl, h1⟩
    · rcases h2 with h2 | ⟨rfl, h2⟩ <;> omega
    · rcases h2 with h2 | ⟨_, h2⟩
      · omega
      · rw [leL_antisymm h1 h2]
theorem firstE_find : ∀ ks : Ks, firstE ks = (ks.find? fun x => decide (x.1 = [])).map (·.2)
  | [] => rfl
  | ([], id) :: r => by simp [firstE]
  | (a :: s, id) :: r => by
    have := firstE_find r
    simp only [firstE, List.find?_cons]
    simpa using this
theorem find_tails (a : Nat) (s : List Nat) : ∀ ks : Ks, ((tails a ks).find? fun x => decide (x.1 = s)).map (·.2) = (ks.find? fun x => decide (x.1 = a :: s)).map (·.2)
  | [] => rfl
  | ([], id) :: r => by
    have := find_tails a s r
    have e : tails a (([], id) :: r) = tails a r := by simp [tails]
    rw [e, this]
    simp
  | (b :: t, id) :: r => by
    have ih := find_tails a s r
    by_cases hb : b = a
    · subst hb
      rw [tails_cons_hit]
      by_cases ht : t = s
      · subst ht; simp
      · simp only [List.find?_cons, ht, decide_false, List.cons.injEq, true_and]
        exact ih
    · have e : tails a ((b :: t, id) :: r) = tails a r := by simp [tails, hb]
      rw [e, ih]
      simp [hb]
theorem firstE_walk : ∀ (s : List Nat) (ks : Ks), firstE (walkK s ks) = (ks.find? fun x => decide (x.1 = s)).map (·.2)
  | [], ks => firstE_find ks
  | a :: s, ks => by rw [walkK, firstE_walk s, find_tails]
/-- Of equal keys the first identifier is found. -/
theorem find_first {keys : List ByteArray} {ids : List Int} {st : Bool} (ho : Ord keys st) {k f : Nat} (hk : k < keys.length) (hf : f ≤ k) (he : ∀ j, f ≤ j → j ≤ k → kAt keys j = kAt keys k) (hs : f = 0 ∨ kAt keys (f - 1) ≠ kAt keys k) :
    findF (ksAll keys ids) (bl (kAt keys k)) = (idAt ids f, true) := by
  have hne : ∀ j, j < f → kAt keys j ≠ kAt keys k := by
    intro j hj e
    rcases hs with rfl | hs
    · omega
    · apply hs
      have h1 := ho.le j (f - 1 - j) (by omega)
      have h2 := ho.le (f - 1) (k - (f - 1)) (by omega)
      rw [show j + (f - 1 - j) = f - 1 by omega] at h1
      rw [show f - 1 + (k - (f - 1)) = k by omega, ← e] at h2
      rw [← e]
      exact (bl_inj (leL_antisymm h1 h2)).symm
  have hfd : ((ksAll keys ids).find? fun x => decide (x.1 = bl (kAt keys k))) = some (bl (kAt keys f), idAt ids f) := by
    unfold ksAll ksOf
    rw [List.find?_map]
    have hr : (List.range keys.length).find? ((fun x : List Nat × Int => decide (x.1 = bl (kAt keys k))) ∘ fun j => ((bl (kAt keys j)).drop 0, idAt ids j)) = some f := by
      rw [List.find?_range_eq_some]
      refine ⟨by simp [he f (Nat.le_refl _) hf], by simp; omega, fun j hj => ?_⟩
      have := hne j hj
      simp only [Function.comp, List.drop_zero, Bool.not_eq_eq_eq_not, Bool.not_true, decide_eq_false_iff_not]
      exact fun e => this (bl_inj e)
    rw [hr]
    simp
  have hE : firstE (walkK (bl (kAt keys k)) (ksAll keys ids)) = some (idAt ids f) := by
    rw [firstE_walk, hfd]
    rfl
  unfold findF
  rw [if_neg (fun e => by have := (ho.2 k hk).1; rw [bl_nil e] at this; cases this), if_neg (fun e => by rw [e] at hE; cases hE), hE]
  rfl

end Go.Proofs.YtjifoimkjgepcaaDoor.Da

/-
  Plain: without one of its keys a trie tells all the others.
-/
set_option linter.unusedVariables false
set_option linter.unusedSimpArgs false
namespace Go.Proofs.YtjifoimkjgepcaaDoor.Da
open Go.RowKit Go.Proofs.YtjifoimkjgepcaaDoor.K

theorem ks_cons (x : ByteArray) (xs : List ByteArray) (i : Int) (is : List Int) : ksAll (x :: xs) (i :: is) = (bl x, i) :: ksAll xs is := by
  unfold ksAll ksOf
  rw [List.length_cons, List.range_succ_eq_map, List.map_cons, List.map_map]
  congr 1
theorem ks_append : ∀ (a : List ByteArray) (c : List Int) (b : List ByteArray) (d : List Int), a.length = c.length → ksAll (a ++ b) (c ++ d) = ksAll a c ++ ksAll b d
  | [], [], b, d, _ => rfl
  | x :: a, i :: c, b, d, h => by
    rw [List.cons_append, List.cons_append, ks_cons, ks_cons, ks_append a c b d (by simpa using h), List.cons_append]
  | [], _ :: _, _, _, h => by simp at h
  | _ :: _, [], _, _, h => by simp at h
theorem walk_snoc (p : List Nat) (a : Nat) (ks : Ks) : walkK (p ++ [a]) ks = tails a (walkK p ks) := by
  rw [walkK_append]
  rfl
theorem find_mid {P Q : Ks} {y : List Nat × Int} {f : List Nat × Int → Bool} (h : f y = false) : (P ++ y :: Q).find? f = (P ++ Q).find? f := by
  rw [List.find?_append, List.find?_append, List.find?_cons, h]
theorem hits_without {P Q : Ks} {x : List Nat} {id : Int} (hP : ∀ y ∈ P, y.1 ≠ x) (hQ : ∀ y ∈ Q, y.1 ≠ x) : ∀ (s p : List Nat),
    hitsF (walkK p (P ++ Q)) s p.length = (hitsF (walkK p (P ++ (x, id) :: Q)) s p.length).filter fun h => decide ((p ++ s).take h.2.toNat ≠ x)
  | [], p => by simp [hitsF]
  | a :: s, p => by
    have ih := hits_without (id := id) hP hQ s (p ++ [a])
    rw [hitsF, hitsF, ← walk_snoc, ← walk_snoc, List.filter_append]
    have hl : (p ++ [a]).length = p.length + 1 := by simp
    rw [hl] at ih
    rw [show p ++ [a] ++ s = p ++ a :: s by simp] at ih
    rw [ih]
    congr 1
    have ht : (p ++ a :: s).take (p.length + 1) = p ++ [a] := by
      rw [show p ++ a :: s = (p ++ [a]) ++ s by simp, ← hl, List.take_left]
    unfold hitAt
    rw [firstE_walk, firstE_walk]
    by_cases e : p ++ [a] = x
    · have h1 : (P ++ Q).find? (fun y => decide (y.1 = p ++ [a])) = none := by
        rw [List.find?_eq_none]
        intro y hy
        rw [e]
        rcases List.mem_append.1 hy with hy | hy
        · simpa using hP y hy
        · simpa using hQ y hy
      have h2 : (P ++ (x, id) :: Q).find? (fun y => decide (y.1 = p ++ [a])) = some (x, id) := by
        have h3 : P.find? (fun y => decide (y.1 = p ++ [a])) = none := by
          rw [List.find?_eq_none]
          intro y hy
          rw [e]
          simpa using hP y hy
        rw [List.find?_append, h3, List.find?_cons]
        simp [e]
      rw [h1, h2]
      simp only [Option.map_none, Option.map_some]
      rw [List.filter_cons, List.filter_nil]
      rw [show (((p.length + 1 : Nat) : Int)).toNat = p.length + 1 by omega, ht]
      simp [e]
    · rw [find_mid (y := (x, id)) (by simpa using fun h => e h.symm)]
      cases (P ++ Q).find? (fun y => decide (y.1 = p ++ [a])) with
      | none => rfl
      | some y =>
        simp only [Option.map_some]
        rw [List.filter_cons, List.filter_nil]
        rw [show (((p.length + 1 : Nat) : Int)).toNat = p.length + 1 by omega, ht]
        simp [e]
theorem kAt_append {a b : List ByteArray} {j : Nat} : kAt (a ++ b) j = if j < a.length then kAt a j else kAt b (j - a.length) := by
  unfold kAt
  split
  · next h => simp [List.getD, List.getElem?_append_left h]
  · next h => simp [List.getD, List.getElem?_append_right (Nat.le_of_not_lt h)]
theorem less_back : ∀ (x y : List UInt8), leL (x.map UInt8.toNat) (y.map UInt8.toNat) → Op.bytesLess y x = false
  | [], y, h => by cases y <;> rfl
  | a :: x, [], h => by simp [leL] at h
  | a :: x, b :: y, h => by
    simp only [List.map_cons, leL] at h
    simp only [Op.bytesLess, Bool.or_eq_false_iff, Bool.and_eq_false_iff, decide_eq_false_iff_not, beq_eq_false_iff_ne]
    rcases h with h | ⟨h, h2⟩
    · refine ⟨fun h3 => by have := UInt8.lt_iff_toNat_lt.1 h3; omega, .inl fun e => by rw [e] at h; omega⟩
    · have e : a = b := UInt8.toNat.inj h
      subst e
      exact ⟨fun h3 => by have := UInt8.lt_iff_toNat_lt.1 h3; omega, .inr (less_back x y h2)⟩
theorem leL_ltB {a b : ByteArray} (h : leL (bl a) (bl b)) : ltB b a = false := by
  unfold ltB
  rw [ByteArray.toList_eq, ByteArray.toList_eq]
  exact less_back _ _ h
theorem ltB_trans' {a b c : ByteArray} (h1 : ltB c b = false) (h2 : ltB b a = false) : ltB c a = false := leL_ltB (leL_trans (ltB_leL h2) (ltB_leL h1))
/-- Strictly ascending: no key twice. -/
theorem Ord.ne {keys : List ByteArray} (h : Ord keys true) {i j : Nat} (hij : i < j) (hj : j < keys.length) : kAt keys i ≠ kAt keys j := by
  intro e
  have h1 := h.le i (j - 1 - i) (by omega)
  rw [show i + (j - 1 - i) = j - 1 by omega, e] at h1
  have h2 := (h.2 j hj).2.2 (by omega)
  have h3 := ltB_leL h2.1
  have h4 : kAt keys (j - 1) = kAt keys j := bl_inj (leL_antisymm h3 h1)
  have h5 := h2.2 rfl
  rw [h4] at h5
  simp at h5

/-- The keys without one. -/
def lessK (keys : List ByteArray) (k : Nat) : List ByteArray := keys.take k ++ keys.drop (k + 1)
def lessI (ids : List Int) (k : Nat) : List Int := ids.take k ++ ids.drop (k + 1)
theorem kAt_less {keys : List ByteArray} {k j : Nat} (hk : k < keys.length) : kAt (lessK keys k) j = kAt keys (if j < k then j else j + 1) := by
  have hl : (keys.take k).length = k := by rw [List.length_take]; omega
  unfold lessK
  rw [kAt_append, hl]
  split
  · next h => unfold kAt; simp [List.getD, List.getElem?_take, h]
  · next h => unfold kAt; simp only [List.getD, List.getElem?_drop]; rw [show k + 1 + (j - k) = j + 1 by omega]
theorem less_length {keys : List ByteArray} {k : Nat} (hk : k < keys.length) : (lessK keys k).length = keys.length - 1 := by
  unfold lessK
  rw [List.length_append, List.length_take, List.length_drop]
  omega
theorem lessI_length {ids : List Int} {k : Nat} (hk : k < ids.length) : (lessI ids k).length = ids.length - 1 := by
  unfold lessI
  rw [List.length_append, List.length_take, List.length_drop]
  omega
theorem ord_less {keys : List ByteArray} {k : Nat} (h : Ord keys true) (hk : k < keys.length) (h2 : 2 ≤ keys.length) : Ord (lessK keys k) false := by
  have hl := less_length hk
  refine ⟨fun e => by rw [e] at hl; simp at hl; omega, fun i hi => ?_⟩
  rw [hl] at hi
  unfold OkAt
  rw [kAt_less hk, kAt_less hk]
  have hi1 : (if i < k then i else i + 1) < keys.length := by split <;> omega
  refine ⟨(h.2 _ hi1).1, (h.2 _ hi1).2.1, fun h0 => ⟨?_, by simp⟩⟩
  by_cases c1 : i < k
  · rw [if_pos c1, if_pos (by omega)]
    exact ((h.2 i (by omega)).2.2 h0).1
  · rw [if_neg c1]
    by_cases c2 : i - 1 < k
    · rw [if_pos c2]
      have e : i = k := by omega
      subst e
      have a1 := ((h.2 (i + 1) (by omega)).2.2 (by omega)).1
      have a2 := ((h.2 i (by omega)).2.2 h0).1
      rw [show i + 1 - 1 = i from rfl] at a1
      exact ltB_trans' a1 a2
    · rw [if_neg c2]
      have a1 := ((h.2 (i + 1) (by omega)).2.2 (by omega)).1
      rw [show i + 1 - 1 = i - 1 + 1 by omega] at a1
      exact a1
/-- The hits without a key are those that are not it. -/
theorem hits_less {keys : List ByteArray} {ids : List Int} {k : Nat} (s : ByteArray) (h : Ord keys true) (hl : ids.length = keys.length) (hk : k < keys.length) :
    hitsF (ksAll (lessK keys k) (lessI ids k)) (bl s) 0 = (hitsF (ksAll keys ids) (bl s) 0).filter fun x => decide ((bl s).take x.2.toNat ≠ bl (kAt keys k)) := by
  have hlt : (keys.take k).length = (ids.take k).length := by rw [List.length_take, List.length_take, hl]
  have e1 : ksAll (lessK keys k) (lessI ids k) = ksAll (keys.take k) (ids.take k) ++ ksAll (keys.drop (k + 1)) (ids.drop (k + 1)) := ks_append _ _ _ _ hlt
  have hki : k < ids.length := by omega
  have e2 : ksAll keys ids = ksAll (keys.take k) (ids.take k) ++ (bl (kAt keys k), ids[k]) :: ksAll (keys.drop (k + 1)) (ids.drop (k + 1)) := by
    have := ks_append (keys.take k) (ids.take k) (keys[k] :: keys.drop (k + 1)) (ids[k] :: ids.drop (k + 1)) hlt
    rw [ks_cons, List.getElem_cons_drop, List.getElem_cons_drop, List.take_append_drop, List.take_append_drop] at this
    rw [kAt_eq hk]
    exact this
  rw [e1, e2]
  refine hits_without (x := bl (kAt keys k)) (id := ids[k]) ?_ ?_ (bl s) []
  · intro y hy e
    obtain ⟨j, hj, rfl⟩ := mem_ks.1 hy
    have hj' : j < k := by rw [List.length_take] at hj; omega
    have : kAt (keys.take k) j = kAt keys j := by unfold kAt; simp [List.getD, List.getElem?_take, hj']
    rw [this] at e
    exact h.ne hj' hk (bl_inj e)
  · intro y hy e
    obtain ⟨j, hj, rfl⟩ := mem_ks.1 hy
    have hj' : k + 1 + j < keys.length := by rw [List.length_drop] at hj; omega
    have : kAt (keys.drop (k + 1)) j = kAt keys (k + 1 + j) := by unfold kAt; simp [List.getD, List.getElem?_drop]
    rw [this] at e
    exact h.ne (show k < k + 1 + j by omega) hj' (bl_inj e).symm
end Go.Proofs.YtjifoimkjgepcaaDoor.Da
