/-
  Keys by their numbers: groups of branches; a map of groups in memory.
-/
import Derived.Test.YtjifoimkjgepcaaDc
import Derived.Test.YtjifoimkjgepcaaDm
import Derived.Maps.OwnRows
import Derived.Maps.Views
set_option linter.unusedVariables false
set_option linter.unusedSimpArgs false
namespace Go.Proofs.Ytjifoimkjgepcaa.Da
open Go.RowKit Go.ChangeShapes Go.Proofs.Ytjifoimkjgepcaa.K Go.Proofs.YtjifoimkjgepcaaW.PrintWords

/-- A text's bytes. -/
def bl (s : ByteArray) : List Nat := s.data.toList.map UInt8.toNat
theorem bl_length (s : ByteArray) : (bl s).length = s.size := by simp [bl]
theorem bl_at (s : ByteArray) {i : Nat} (h : i < s.size) : (bl s).drop i = (s.get! i).toNat :: (bl s).drop (i + 1) := by
  have hl : i < (bl s).length := by rw [bl_length]; exact h
  rw [List.drop_eq_getElem_cons hl]
  congr 1
  have : i < s.data.size := h
  simp only [bl, List.getElem_map, Array.getElem_toList, ByteArray.get!]
  rw [getElem!_pos s.data i this]
theorem bl_end (s : ByteArray) {i : Nat} (h : s.size ≤ i) : (bl s).drop i = [] := List.drop_eq_nil_of_le (by rw [bl_length]; exact h)
/-- The key, the identifier of a number. -/
def kAt (keys : List ByteArray) (j : Nat) : ByteArray := keys.getD j ByteArray.empty
def idAt (ids : List Int) (j : Nat) : Int := ids.getD j 0
theorem kAt_eq {keys : List ByteArray} {j : Nat} (h : j < keys.length) : kAt keys j = keys[j] := by simp [kAt, List.getD, h]
theorem idAt_eq {ids : List Int} {j : Nat} (h : j < ids.length) : idAt ids j = ids[j] := by simp [idAt, List.getD, h]
/-- The rests of the keys of these numbers, with their identifiers. -/
def ksOf (keys : List ByteArray) (ids : List Int) (i : Nat) (bs : List Nat) : Ks := bs.map fun j => ((bl (kAt keys j)).drop i, idAt ids j)
/-- Those of them that go on with a character. -/
def grp (keys : List ByteArray) (i ch : Nat) (bs : List Nat) : List Nat := bs.filter fun j => decide (i < (kAt keys j).size ∧ ((kAt keys j).get! i).toNat = ch)
theorem tails_ks (keys : List ByteArray) (ids : List Int) (i ch : Nat) (bs : List Nat) : tails ch (ksOf keys ids i bs) = ksOf keys ids (i + 1) (grp keys i ch bs) := by
  induction bs with
  | nil => rfl
  | cons j r ih =>
    simp only [ksOf, List.map_cons, grp, List.filter_cons] at ih ⊢
    by_cases h : i < (kAt keys j).size
    · rw [bl_at _ h]
      simp only [tails]
      by_cases h2 : ((kAt keys j).get! i).toNat = ch
      · rw [if_pos h2, if_pos (by simp [h, h2]), List.map_cons, ih]
      · rw [if_neg h2, if_neg (by simp [h2]), ih]
    · rw [bl_end _ (by omega)]
      simp only [tails]
      rw [if_neg (by simp; omega), ih]
/-- The character at which a key goes on. -/
def chAt (s : ByteArray) (i : Nat) : Nat := if i < s.size then (s.get! i).toNat else 0
theorem head_ks (s : ByteArray) (i : Nat) : head1 ((bl s).drop i) = chAt s i := by
  unfold chAt
  split
  · rename_i h; rw [bl_at _ h]; rfl
  · rename_i h; rw [bl_end _ (by omega)]; rfl
theorem grp_snoc (keys : List ByteArray) (i ch j : Nat) (bs : List Nat) : grp keys i ch (bs ++ [j]) = if i < (kAt keys j).size ∧ ((kAt keys j).get! i).toNat = ch then grp keys i ch bs ++ [j] else grp keys i ch bs := by
  unfold grp
  rw [List.filter_append]
  split <;> rename_i h
  · simp [h]
  · simp [List.filter_cons, h]

abbrev tInt : Nat := 3
abbrev tU8 : Nat := 5
/-- A slice's numbers as an element of a map. -/
def grpD (zs : List Int) : DataW Unit := if zs = [] then .nil else .slice (lits .i64 zs) []
def IntL (bs : List Nat) : List Int := bs.map fun (j : Nat) => (j : Int)
theorem IntL_length (bs : List Nat) : (IntL bs).length = bs.length := by simp [IntL]
theorem lits_inj {q : IntKind} {a b : List Int} (h : (lits (H := Unit) q a) = lits q b) : a = b := by
  unfold lits at h
  exact (List.map_inj_right (fun x y hxy => by cases hxy; rfl)).1 h
/-- What a look-up found, in words. -/
theorem found_zs {w : World} {base e : Nat} {v : Value} {zs L : List Int} (ho : w.ownsInts base e .i64 v zs) (hat : grpD L = rowDatum .i64 v zs) : zs = L := by
  unfold grpD at hat
  rcases ho.datum (H := Unit) with ⟨h1, h2⟩ | h1
  · rw [h1] at hat
    split at hat
    · rename_i h; rw [h, h2]
    · cases hat
  · rw [h1] at hat
    split at hat
    · cases hat
    · injection hat with h2
      exact (lits_inj h2).symm
/-- Block bm is a map from characters to groups of branches. -/
def Grps (base bm n : Nat) (keys : List ByteArray) (i : Nat) (bs : List Nat) (w : World) : Prop :=
  ∃ D : DataW Unit, w.ownsGroups Try.prog tU8 base tInt .i64 bm n D ∧ Maps.IsMap D ∧ ∀ ch : Nat, ch ≤ 255 → D.atKey (.int .u8 ch) .nil = grpD (if ch = 0 then [] else IntL (grp keys i ch bs))
theorem groups_keep {w w' : World} {k base e b n : Nat} {D : DataW Unit} (h : w.ownsGroups Try.prog k base e .i64 b n D) (hm : ∀ es c, w.heap[b]? = some (Obj.map es c) → w'.heap[b]? = some (Obj.map es c))
    (hr : ∀ (j : Nat) (cur : Array Value), w.heap[j]? = some (Obj.cells cur e (0, 0)) → w'.heap[j]? = some (Obj.cells cur e (0, 0))) : w'.ownsGroups Try.prog k base e .i64 b n D := by
  obtain ⟨es, clock, hb, F, hs, rfl, hbb, hlen, hap⟩ := h
  have keep : ∀ {u : Value} {ys : List Int}, w.ownsInts base e .i64 u ys → w'.ownsInts base e .i64 u ys := fun {u ys} ho =>
    ⟨own_keep ho.1 (fun k hk => by obtain ⟨cur, hc⟩ := own_heap ho.1 hk; rw [hr k cur hc, hc]), ho.2⟩
  have hst : ∀ x ∈ es.toList, ∀ z, rowElem (H := Unit) w base e .i64 x.val = some z → rowElem w' base e .i64 x.val = some z := by
    intro x _ z hz
    obtain ⟨zs, ho, rfl⟩ := rowElem_inv hz
    exact rowElem_mk (keep ho)
  obtain ⟨F2, hmap, _⟩ := F.stay hst
  refine ⟨es, clock, hm _ _ hb, F2, hs, by rw [hmap], hbb, ?_, hap⟩
  intro x hx zs ho
  obtain ⟨y, hy⟩ := F.reads x hx
  obtain ⟨z, hz, _⟩ := WideElems.rd_val hy
  obtain ⟨zs0, ho0, _⟩ := rowElem_inv hz
  rw [ho.unique (keep ho0)]
  exact hlen x hx zs0 ho0
theorem Grps.keep {base bm n i : Nat} {keys : List ByteArray} {bs : List Nat} {w w' : World} (h : Grps base bm n keys i bs w) (hm : ∀ es c, w.heap[bm]? = some (Obj.map es c) → w'.heap[bm]? = some (Obj.map es c))
    (hr : ∀ (j : Nat) (cur : Array Value), w.heap[j]? = some (Obj.cells cur tInt (0, 0)) → w'.heap[j]? = some (Obj.cells cur tInt (0, 0))) : Grps base bm n keys i bs w' := by
  obtain ⟨D, h1, h2, h3⟩ := h
  exact ⟨D, groups_keep h1 hm hr, h2, h3⟩
/-- A branch joins its group. -/
theorem grp_put {keys : List ByteArray} {i ch j : Nat} {bs : List Nat} {D : DataW Unit} {v' : Value} {zs : List Int} (hD : Maps.IsMap D) (hat : ∀ c : Nat, c ≤ 255 → D.atKey (.int .u8 c) .nil = grpD (if c = 0 then [] else IntL (grp keys i c bs)))
    (h1 : 1 ≤ ch) (h2 : ch ≤ 255) (hi : i < (kAt keys j).size ∧ ((kAt keys j).get! i).toNat = ch) (hz : zs = IntL (grp keys i ch bs)) {w : World} {base e : Nat} (ho : w.ownsInts base e .i64 v' (zs ++ [(j : Int)])) :
    ∀ c : Nat, c ≤ 255 → (D.put (.int .u8 ch) (rowDatum .i64 v' (zs ++ [(j : Int)]))).atKey (.int .u8 c) .nil = grpD (if c = 0 then [] else IntL (grp keys i c (bs ++ [j]))) := by
  intro c hc
  by_cases he : c = ch
  · subst he
    rw [Maps.atKey_put_same hD (by trivial), ho.datum_pos (by simp), if_neg (by omega), grp_snoc, if_pos hi, hz]
    simp [grpD, IntL]
  · rw [Maps.atKey_put_other (by intro e; injection e with _ e; omega), hat c hc, grp_snoc, if_neg (c := i < (kAt keys j).size ∧ ((kAt keys j).get! i).toNat = c) (fun h => he (h.2.symm.trans hi.2))]
/-- A branch that ends here, joins none. -/
theorem grp_skip {keys : List ByteArray} {i j : Nat} {bs : List Nat} (hj : (kAt keys j).size ≤ i) (ch : Nat) : grp keys i ch (bs ++ [j]) = grp keys i ch bs := by
  rw [grp_snoc, if_neg (by rintro ⟨h, _⟩; omega)]
end Go.Proofs.Ytjifoimkjgepcaa.Da
