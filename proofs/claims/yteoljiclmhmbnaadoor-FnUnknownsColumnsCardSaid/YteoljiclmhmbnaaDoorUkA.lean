/-
  A stable sort, plainly: elements are their numbers in the list as it was; what insertion, rotation and symMerge make of them.
-/
import Derived.Sort.LotA
import Derived.Test.YteoljiclmhmbnaaDoorWWords
import Derived.Lib.Hide
import Derived.WalkSpells
import Derived.WalkLawsBesides
import Derived.Test.YteoljiclmhmbnaaDoorRows
import Derived.Sort.WalkA
import Derived.Sort.Grow
import Derived.Shelf.SlSortCmp.Kit1
import Derived.Lib.Bytealg
import Derived.Outline
import Derived.Deep.QuietTactic
import Derived.BigQuiet
import Derived.Deep.RegionLaw
import Derived.BigRegion
import Derived.Deep.RegionWith
import Derived.Tactics2
import Derived.Maps.OwnOps
import Derived.Maps.Ext
import Derived.Maps.RangeWalk
set_option linter.unusedVariables false
set_option linter.unusedSimpArgs false
namespace Go.Proofs.YteoljiclmhmbnaaDoor.St
open Go.Sort

variable {lt : Nat → Nat → Bool}

/-- The order, equal ones by their numbers. -/
def ltT (lt : Nat → Nat → Bool) (x y : Nat) : Bool := lt x y || (!lt y x && decide (x < y))
theorem ltT_true {x y : Nat} : ltT lt x y = true ↔ lt x y = true ∨ (lt y x = false ∧ x < y) := by simp [ltT]
theorem ltT_false {x y : Nat} : ltT lt x y = false ↔ lt x y = false ∧ (lt y x = true ∨ y ≤ x) := by
  cases h1 : lt x y <;> cases h2 : lt y x <;> simp [ltT, h1, h2]
theorem asym (h : SWO lt) {x y : Nat} (hx : lt x y = true) : lt y x = false := by
  cases hy : lt y x
  · rfl
  · have := h.trans _ _ _ hx hy; rw [h.irrefl] at this; cases this
theorem ltT_total (h : SWO lt) {x y : Nat} (h1 : ltT lt x y = false) (h2 : ltT lt y x = false) : x = y := by
  rw [ltT_false] at h1 h2
  rcases h1.2 with h3 | h3
  · rw [h3] at h2; cases h2.1
  · rcases h2.2 with h4 | h4
    · rw [h4] at h1; cases h1.1
    · omega
theorem ltT_asym (h : SWO lt) {x y : Nat} (hx : ltT lt x y = true) : ltT lt y x = false := by
  rw [ltT_true] at hx
  rw [ltT_false]
  rcases hx with hx | ⟨hx, hy⟩
  · exact ⟨asym h hx, .inl hx⟩
  · exact ⟨hx, .inr (by omega)⟩
theorem ltT_ntrans (h : SWO lt) {x y z : Nat} (h1 : ltT lt x y = false) (h2 : ltT lt y z = false) : ltT lt x z = false := by
  rw [ltT_false] at h1 h2 ⊢
  have h3 := h.ntrans _ _ _ h1.1 h2.1
  refine ⟨h3, ?_⟩
  cases hz : lt z x with
  | true => exact .inl rfl
  | false =>
    refine .inr ?_
    -- x, y, z are alike
    have hyx : lt y x = false := h.ntrans _ _ _ h2.1 hz
    have hzy : lt z y = false := h.ntrans _ _ _ hz h1.1
    have e1 : y ≤ x := by rcases h1.2 with e | e; · rw [hyx] at e; cases e
                          · exact e
    have e2 : z ≤ y := by rcases h2.2 with e | e; · rw [hzy] at e; cases e
                          · exact e
    omega
theorem swo_ltT (h : SWO lt) : SWO (ltT lt) where
  irrefl x := by simp [ltT, h.irrefl]
  trans x y z h1 h2 := by
    cases h3 : ltT lt x z with
    | true => rfl
    | false =>
      have h4 := ltT_ntrans h h3 (ltT_asym h h2)
      rw [h1] at h4; cases h4
  ntrans x y z h1 h2 := ltT_ntrans h h1 h2
theorem ltT_tag {x y : Nat} (h : x < y) : ltT lt y x = lt y x := by
  have : ¬ y < x := by omega
  simp [ltT, this]

/-! ### insertion -/
theorem insInner_tag (a : Nat) : ∀ (i : Nat) (d : Array Nat), i < d.size → (∀ j, a ≤ j → j < i → d[j]! < d[i]!) → insInner lt a i d = insInner (ltT lt) a i d := by
  intro i
  induction i with
  | zero => intro d _ _; rfl
  | succ i ih =>
    intro d hs h
    rw [insInner, insInner]
    by_cases hi : i + 1 > a
    · rw [ltT_tag (h i (by omega) (by omega))]
      split
      · apply ih
        · rw [size_swp]; omega
        · intro j hj hji
          rw [swp_other _ _ _ _ (by omega) (by omega), swp_right _ _ _ (by omega)]
          exact h j hj (by omega)
      · rfl
    · simp [hi]
theorem insInner_perm (h : SWO lt) (a b i : Nat) (d : Array Nat) (hab : a ≤ i) (hib : i < b) (hb : b ≤ d.size) (hs : SortedIn lt a i d) : PermIn a (i + 1) d (insInner lt a i d) := by
  have := insertionSort_holds (lt := lt) h
  exact (insInner_spec h swp_permIn permIn_refl permIn_trans a (i + 1) i (by omega) i d hab (Nat.le_refl _) (by omega) ⟨fun p q hap hpq hqi _ hq => hs p q hap hpq (by omega), fun q h1 h2 => by omega⟩).1
theorem insInner_sorted (h : SWO lt) (a b i : Nat) (d : Array Nat) (hab : a ≤ i) (hib : i < b) (hb : b ≤ d.size) (hs : SortedIn lt a i d) : SortedIn lt a (i + 1) (insInner lt a i d) :=
  (insInner_spec h swp_permIn permIn_refl permIn_trans a (i + 1) i (by omega) i d hab (Nat.le_refl _) (by omega) ⟨fun p q hap hpq hqi _ hq => hs p q hap hpq (by omega), fun q h1 h2 => by omega⟩).2
theorem insOuter_tag (h : SWO lt) (a b : Nat) : ∀ (n i : Nat) (d : Array Nat), n = b - i → a ≤ i → b ≤ d.size → SortedIn (ltT lt) a i d → (∀ x y, a ≤ x → x < y → i ≤ y → y < b → d[x]! < d[y]!) →
    insOuter lt a b i d = insOuter (ltT lt) a b i d := by
  intro n
  induction n with
  | zero =>
    intro i d hn _ _ _ _
    conv => lhs; rw [insOuter, if_neg (by omega)]
    conv => rhs; rw [insOuter, if_neg (by omega)]
  | succ n ih =>
    intro i d hn ha hb hs ht
    conv => lhs; rw [insOuter, if_pos (show i < b by omega)]
    conv => rhs; rw [insOuter, if_pos (show i < b by omega)]
    have e := insInner_tag (lt := lt) a i d (by omega) (fun j hj hji => ht j i hj hji (Nat.le_refl _) (by omega))
    rw [e]
    have hP := insInner_perm (swo_ltT h) a b i d ha (by omega) hb hs
    refine ih (i + 1) _ (by omega) (by omega) (by rw [hP.1]; exact hb) (insInner_sorted (swo_ltT h) a b i d ha (by omega) hb hs) ?_
    intro x y hx hxy hiy hy
    rw [hP.2.1 y (by omega)]
    by_cases hxi : x < i + 1
    · exact permIn_all d _ a (i + 1) (fun v => v < d[y]!) (by omega) hP (fun z hz hzi => ht z y hz (by omega) (by omega) hy) x hx hxi
    · rw [hP.2.1 x (by omega)]
      exact ht x y hx hxy (by omega) hy
theorem ins_tag (h : SWO lt) (a b : Nat) (d : Array Nat) (hab : a ≤ b) (hb : b ≤ d.size) (ht : ∀ x y, a ≤ x → x < y → y < b → d[x]! < d[y]!) : insertionSort lt d a b = insertionSort (ltT lt) d a b := by
  unfold insertionSort
  exact insOuter_tag h a b _ (a + 1) d rfl (by omega) hb (fun i j h1 h2 h3 => by omega) (fun x y hx hxy _ hy => ht x y hx hxy hy)

/-! ### rotation -/
/-- d' is d with [a, m) and [m, b) exchanged. -/
def RotOf (a m b : Nat) (d d' : Array Nat) : Prop :=
  d'.size = d.size ∧ (∀ x, x < a ∨ b ≤ x → d'[x]! = d[x]!) ∧ (∀ x, a ≤ x → x < a + (b - m) → d'[x]! = d[x + (m - a)]!) ∧ (∀ x, a + (b - m) ≤ x → x < b → d'[x]! = d[x - (b - m)]!)
theorem rot_nil_left (m b : Nat) (d : Array Nat) : RotOf m m b d d := ⟨rfl, fun _ _ => rfl, fun x _ _ => by rw [Nat.sub_self, Nat.add_zero], fun x h1 h2 => by omega⟩
theorem rot_nil_right (a m : Nat) (d : Array Nat) : RotOf a m m d d := ⟨rfl, fun _ _ => rfl, fun x h1 h2 => by omega, fun x _ _ => by rw [Nat.sub_self, Nat.sub_zero]⟩

/-- d' is d with the n elements from a on and the n from b on exchanged. -/
def SwOf (a b n : Nat) (d d' : Array Nat) : Prop :=
  d'.size = d.size ∧ (∀ x, (x < a ∨ a + n ≤ x) → (x < b ∨ b + n ≤ x) → d'[x]! = d[x]!) ∧ (∀ x, a ≤ x → x < a + n → d'[x]! = d[b + (x - a)]!) ∧ (∀ x, b ≤ x → x < b + n → d'[x]! = d[a + (x - b)]!)
theorem sw_zero (a b : Nat) (d : Array Nat) : SwOf a b 0 d d := ⟨rfl, fun _ _ _ => rfl, fun x _ _ => by omega, fun x _ _ => by omega⟩
theorem sw_step {a b i : Nat} {d d' : Array Nat} (h : SwOf a b i d d') (hab : a + i < b) (hb : b + i < d.size) : SwOf a b (i + 1) d (swp d' (a + i) (b + i)) := by
  obtain ⟨h1, h2, h3, h4⟩ := h
  refine ⟨by rw [size_swp, h1], ?_, ?_, ?_⟩
  · intro x hx hy
    rw [swp_other _ _ _ _ (by omega) (by omega)]
    exact h2 x (by omega) (by omega)
  · intro x hx hy
    by_cases e : x = a + i
    · subst e
      rw [swp_left _ _ _ (by omega) (by omega), h2 (b + i) (by omega) (by omega)]
      congr 1; omega
    · rw [swp_other _ _ _ _ (by omega) (by omega)]
      exact h3 x hx (by omega)
  · intro x hx hy
    by_cases e : x = b + i
    · subst e
      rw [swp_right _ _ _ (by omega), h2 (a + i) (by omega) (by omega)]
      congr 1; omega
    · rw [swp_other _ _ _ _ (by omega) (by omega)]
      exact h4 x hx (by omega)

/-- What is left to rotate: dk with [m - i, m) and [m, m + j) exchanged is what is wanted. -/
def Lf (a m b i j : Nat) (d dk : Array Nat) : Prop := ∀ T, RotOf (m - i) m (m + j) dk T → RotOf a m b d T
theorem left_start {a m b : Nat} {d : Array Nat} (ha : a ≤ m) (hb : m ≤ b) : Lf a m b (m - a) (b - m) d d := by
  intro T h
  rwa [show m - (m - a) = a by omega, show m + (b - m) = b by omega] at h
theorem left_gt {a m b i j : Nat} {d dk dl : Array Nat} (h : Lf a m b i j d dk) (hij : j < i) (hi : i ≤ m) (hs : SwOf (m - i) m j dk dl) : Lf a m b (i - j) j d dl := by
  intro T hT
  apply h
  obtain ⟨s1, s2, s3, s4⟩ := hs
  obtain ⟨t1, t2, t3, t4⟩ := hT
  refine ⟨by rw [t1, s1], ?_, ?_, ?_⟩
  · intro x hx
    rw [t2 x (by omega), s2 x (by omega) (by omega)]
  · intro x hx hy
    by_cases e : x < m - (i - j)
    · rw [t2 x (by omega), s3 x (by omega) (by omega)]
      congr 1; omega
    · omega
  · intro x hx hy
    by_cases e : x < m - (i - j) + (m + j - m)
    · rw [t3 x (by omega) e]
      rw [s4 (x + (m - (m - (i - j)))) (by omega) (by omega)]
      congr 1; omega
    · rw [t4 x (by omega) (by omega)]
      rw [s2 _ (by omega) (by omega)]
theorem left_lt {a m b i j : Nat} {d dk dl : Array Nat} (h : Lf a m b i j d dk) (hij : i < j) (hi : i ≤ m) (hs : SwOf (m - i) (m + j - i) i dk dl) : Lf a m b i (j - i) d dl := by
  intro T hT
  apply h
  obtain ⟨s1, s2, s3, s4⟩ := hs
  obtain ⟨t1, t2, t3, t4⟩ := hT
  refine ⟨by rw [t1, s1], ?_, ?_, ?_⟩
  · intro x hx
    rw [t2 x (by omega), s2 x (by omega) (by omega)]
  · intro x hx hy
    by_cases e : x < m - i + (m + (j - i) - m)
    · rw [t3 x (by omega) e, s2 _ (by omega) (by omega)]
    · by_cases e2 : x < m + (j - i)
      · rw [t4 x (by omega) e2, s3 _ (by omega) (by omega)]
        congr 1; omega
      · omega
  · intro x hx hy
    rw [t2 x (by omega), s4 x (by omega) (by omega)]
    congr 1; omega
theorem left_eq {a m b i : Nat} {d dk dl : Array Nat} (h : Lf a m b i i d dk) (hi : i ≤ m) (hs : SwOf (m - i) m i dk dl) : RotOf a m b d dl := by
  apply h
  obtain ⟨s1, s2, s3, s4⟩ := hs
  refine ⟨s1, fun x hx => s2 x (by omega) (by omega), fun x hx hy => ?_, fun x hx hy => ?_⟩
  · rw [s3 x hx (by omega)]; congr 1; omega
  · rw [s4 x (by omega) (by omega)]; congr 1; omega

/-! ### symMerge -/
/-- Two ascending rows side by side, the numbers of the first below those of the second. -/
structure Mp (lt : Nat → Nat → Bool) (a m b : Nat) (d : Array Nat) : Prop where
  am : a < m
  mb : m < b
  bs : b ≤ d.size
  s1 : SortedIn (ltT lt) a m d
  s2 : SortedIn (ltT lt) m b d
  tg : ∀ i j, a ≤ i → i < m → m ≤ j → j < b → d[i]! < d[j]!
/-- What they become. -/
def Post (lt : Nat → Nat → Bool) (a b : Nat) (d d' : Array Nat) : Prop := PermIn a b d d' ∧ SortedIn (ltT lt) a b d'
theorem Mp.lt_eq {a m b : Nat} {d : Array Nat} (h : Mp lt a m b d) {i j : Nat} (h1 : a ≤ i) (h2 : i < m) (h3 : m ≤ j) (h4 : j < b) : lt d[j]! d[i]! = ltT lt d[j]! d[i]! := (ltT_tag (h.tg i j h1 h2 h3 h4)).symm
/-- The comparison across the two rows is monotonous. -/
theorem Mp.mono (hS : SWO lt) {a m b : Nat} {d : Array Nat} (h : Mp lt a m b d) {x y z z' : Nat} (h1 : a ≤ z) (h2 : z ≤ z') (h3 : z' < m) (h4 : m ≤ x) (h5 : x ≤ y) (h6 : y < b) (hl : lt d[y]! d[z]! = true) : lt d[x]! d[z']! = true := by
  rw [h.lt_eq h1 (by omega) (by omega) h6] at hl
  rw [h.lt_eq (by omega) h3 h4 (by omega)]
  cases hc : ltT lt d[x]! d[z']! with
  | true => rfl
  | false =>
    have k1 : ltT lt d[y]! d[x]! = false := by
      by_cases e1 : x = y
      · rw [e1]; exact (swo_ltT hS).irrefl _
      · exact h.s2 x y h4 (by omega) h6
    have k2 : ltT lt d[z']! d[z]! = false := by
      by_cases e1 : z = z'
      · rw [e1]; exact (swo_ltT hS).irrefl _
      · exact h.s1 z z' h1 (by omega) h3
    have := ltT_ntrans hS (ltT_ntrans hS k1 hc) k2
    rw [hl] at this; cases this
theorem Mp.mono' (hS : SWO lt) {a m b : Nat} {d : Array Nat} (h : Mp lt a m b d) {x y z z' : Nat} (h1 : a ≤ z) (h2 : z ≤ z') (h3 : z' < m) (h4 : m ≤ x) (h5 : x ≤ y) (h6 : y < b) (hl : lt d[x]! d[z']! = false) : lt d[y]! d[z]! = false := by
  cases hc : lt d[y]! d[z]! with
  | false => rfl
  | true => rw [h.mono hS h1 h2 h3 h4 h5 h6 hc] at hl; cases hl
/-- A step of the element to the right. -/
theorem rot_step_right {a k : Nat} {d dk : Array Nat} (h : RotOf a (a + 1) (k + 1) d dk) (ha : a ≤ k) (hk : k + 1 < d.size) : RotOf a (a + 1) (k + 2) d (swp dk k (k + 1)) := by
  obtain ⟨h1, h2, h3, h4⟩ := h
  have e4 : dk[k]! = d[a]! := by rw [h4 k (by omega) (by omega)]; congr 1; omega
  refine ⟨by rw [size_swp, h1], fun x hx => ?_, fun x hx hy => ?_, fun x hx hy => ?_⟩
  · rw [swp_other _ _ _ _ (by omega) (by omega)]; exact h2 x (by omega)
  · by_cases e : x = k
    · subst e
      rw [swp_left _ _ _ (by omega) (by omega), h2 (x + 1) (by omega)]
      congr 1; omega
    · rw [swp_other _ _ _ _ (by omega) (by omega), h3 x hx (by omega)]
  · have e : x = k + 1 := by omega
    subst e
    rw [swp_right _ _ _ (by omega), e4]
    congr 1; omega
/-- .. to the left. -/
theorem rot_step_left {m k : Nat} {d dk : Array Nat} (h : RotOf (k + 1) m (m + 1) d dk) (hk : k + 1 ≤ m) (hm : m < d.size) : RotOf k m (m + 1) d (swp dk (k + 1) k) := by
  obtain ⟨h1, h2, h3, h4⟩ := h
  have e3 : dk[k + 1]! = d[m]! := by rw [h3 (k + 1) (by omega) (by omega)]; congr 1; omega
  refine ⟨by rw [size_swp, h1], fun x hx => ?_, fun x hx hy => ?_, fun x hx hy => ?_⟩
  · rw [swp_other _ _ _ _ (by omega) (by omega)]; exact h2 x (by omega)
  · have e : x = k := by omega
    subst e
    rw [swp_right _ _ _ (by omega), e3]
    congr 1; omega
  · by_cases e : x = k + 1
    · subst e
      rw [swp_left _ _ _ (by omega) (by omega), h2 k (by omega)]
      congr 1; omega
    · rw [swp_other _ _ _ _ (by omega) (by omega), h4 x (by omega) hy]
/-- One element into the second row. -/
theorem one_left (hS : SWO lt) {a b i : Nat} {d d' : Array Nat} (h : Mp lt a (a + 1) b d) (hi : a + 1 ≤ i) (hib : i ≤ b) (h1 : ∀ x, a + 1 ≤ x → x < i → lt d[x]! d[a]! = true) (h2 : ∀ x, i ≤ x → x < b → lt d[x]! d[a]! = false) (hr : RotOf a (a + 1) i d d') :
    SortedIn (ltT lt) a b d' := by
  obtain ⟨r1, r2, r3, r4⟩ := hr
  have g1 : ∀ x, a + 1 ≤ x → x < i → ltT lt d[x]! d[a]! = true := fun x hx hy => by rw [← h.lt_eq (Nat.le_refl _) (by omega) hx (by omega)]; exact h1 x hx hy
  have g2 : ∀ x, i ≤ x → x < b → ltT lt d[x]! d[a]! = false := fun x hx hy => by rw [← h.lt_eq (Nat.le_refl _) (by omega) (by omega) hy]; exact h2 x hx hy
  have p1 : ∀ x, a ≤ x → x < i - 1 → d'[x]! = d[x + 1]! := fun x hx hy => by rw [r3 x hx (by omega)]; congr 1; omega
  have p2 : d'[i - 1]! = d[a]! := by rw [r4 (i - 1) (by omega) (by omega)]; congr 1; omega
  have p3 : ∀ x, i ≤ x → d'[x]! = d[x]! := fun x hx => r2 x (by omega)
  intro x y hx hxy hy
  rcases Nat.lt_trichotomy y (i - 1) with e | e | e
  · rw [p1 x hx (by omega), p1 y (by omega) e]
    exact h.s2 _ _ (by omega) (by omega) (by omega)
  · rw [e, p2, p1 x hx (by omega)]
    exact ltT_asym hS (g1 _ (by omega) (by omega))
  · rw [p3 y (by omega)]
    rcases Nat.lt_trichotomy x (i - 1) with e' | e' | e'
    · rw [p1 x hx e']
      exact h.s2 _ _ (by omega) (by omega) (by omega)
    · rw [e', p2]; exact g2 y (by omega) hy
    · rw [p3 x (by omega)]
      exact h.s2 _ _ (by omega) (by omega) (by omega)
/-- One element into the first row. -/
theorem one_right (hS : SWO lt) {a m i : Nat} {d d' : Array Nat} (h : Mp lt a m (m + 1) d) (hi : a ≤ i) (him : i ≤ m) (h1 : ∀ x, a ≤ x → x < i → lt d[m]! d[x]! = false) (h2 : ∀ x, i ≤ x → x < m → lt d[m]! d[x]! = true) (hr : RotOf i m (m + 1) d d') :
    SortedIn (ltT lt) a (m + 1) d' := by
  obtain ⟨r1, r2, r3, r4⟩ := hr
  have g1 : ∀ x, a ≤ x → x < i → ltT lt d[m]! d[x]! = false := fun x hx hy => by rw [← h.lt_eq hx (by omega) (Nat.le_refl _) (by omega)]; exact h1 x hx hy
  have g2 : ∀ x, i ≤ x → x < m → ltT lt d[m]! d[x]! = true := fun x hx hy => by rw [← h.lt_eq (by omega) (by omega) (Nat.le_refl _) (by omega)]; exact h2 x hx hy
  have p1 : ∀ x, x < i → d'[x]! = d[x]! := fun x hx => r2 x (by omega)
  have p2 : d'[i]! = d[m]! := by rw [r3 i (by omega) (by omega)]; congr 1; omega
  have p3 : ∀ x, i < x → x ≤ m → d'[x]! = d[x - 1]! := fun x hx hy => by rw [r4 x (by omega) (by omega)]; congr 1; omega
  intro x y hx hxy hy
  rcases Nat.lt_trichotomy y i with e | e | e
  · rw [p1 x (by omega), p1 y (by omega)]
    exact h.s1 _ _ (by omega) (by omega) (by omega)
  · rw [e, p2, p1 x (by omega)]
    exact g1 _ (by omega) (by omega)
  · rw [p3 y (by omega) (by omega)]
    rcases Nat.lt_trichotomy x i with e' | e' | e'
    · rw [p1 x e']
      by_cases e2 : x = y - 1
      · omega
      · exact h.s1 _ _ (by omega) (by omega) (by omega)
    · rw [e', p2]; exact ltT_asym hS (g2 _ (by omega) (by omega))
    · rw [p3 x (by omega) (by omega)]
      exact h.s1 _ _ (by omega) (by omega) (by omega)
/-- What holds behind the search and the rotation. -/
structure Cross (lt : Nat → Nat → Bool) (a s mid e b : Nat) (d : Array Nat) : Prop where
  lo : a ≤ s
  sm : s ≤ mid
  me : mid ≤ e
  eb : e ≤ b
  bs : b ≤ d.size
  p1 : SortedIn (ltT lt) a s d
  p2 : SortedIn (ltT lt) s mid d
  p3 : SortedIn (ltT lt) mid e d
  p4 : SortedIn (ltT lt) e b d
  t1 : ∀ i j, a ≤ i → i < s → s ≤ j → j < mid → d[i]! < d[j]!
  t2 : ∀ i j, mid ≤ i → i < e → e ≤ j → j < b → d[i]! < d[j]!
  cr : ∀ i j, a ≤ i → i < mid → mid ≤ j → j < b → ltT lt d[j]! d[i]! = false
theorem cross_of (hS : SWO lt) {a m b s e mid : Nat} {d d1 : Array Nat} (h : Mp lt a m b d) (h1 : a ≤ s) (h2 : s ≤ m) (h3 : m ≤ e) (h4 : e ≤ b) (he : s + e = mid + m)
    (hx : s < m → m < e → lt d[e - 1]! d[s]! = true) (hy : a < s → e < b → lt d[e]! d[s - 1]! = false) (hr : RotOf s m e d d1) : Cross lt a s mid e b d1 := by
  obtain ⟨r1, r2, r3, r4⟩ := hr
  have gx : ∀ i j, s ≤ i → i < m → m ≤ j → j < e → ltT lt d[j]! d[i]! = true := fun i j hi him hj hje => by
    have := hx (by omega) (by omega)
    rw [h.lt_eq (by omega) (by omega) (by omega) (by omega)] at this
    cases hc : ltT lt d[j]! d[i]! with
    | true => rfl
    | false =>
      have k1 : ltT lt d[e - 1]! d[j]! = false := by
        by_cases e1 : j = e - 1
        · rw [e1]; exact (swo_ltT hS).irrefl _
        · exact h.s2 j (e - 1) hj (by omega) (by omega)
      have k2 : ltT lt d[i]! d[s]! = false := by
        by_cases e1 : i = s
        · rw [e1]; exact (swo_ltT hS).irrefl _
        · exact h.s1 s i (by omega) (by omega) (by omega)
      have := ltT_ntrans hS (ltT_ntrans hS k1 hc) k2
      simp_all
  have gy : ∀ i j, a ≤ i → i < s → e ≤ j → j < b → ltT lt d[j]! d[i]! = false := fun i j hi his hj hjb => by
    have := hy (by omega) (by omega)
    rw [h.lt_eq (by omega) (by omega) (by omega) (by omega)] at this
    have k1 : ltT lt d[j]! d[e]! = false := by
      by_cases e1 : j = e
      · rw [e1]; exact (swo_ltT hS).irrefl _
      · exact h.s2 e j (by omega) (by omega) (by omega)
    have k2 : ltT lt d[s - 1]! d[i]! = false := by
      by_cases e1 : i = s - 1
      · rw [e1]; exact (swo_ltT hS).irrefl _
      · exact h.s1 i (s - 1) (by omega) (by omega) (by omega)
    exact ltT_ntrans hS (ltT_ntrans hS k1 this) k2
  have q1 : ∀ x, x < s → d1[x]! = d[x]! := fun x hx => r2 x (by omega)
  have q2 : ∀ x, s ≤ x → x < mid → d1[x]! = d[x + (m - s)]! := fun x hx hy => r3 x hx (by omega)
  have q3 : ∀ x, mid ≤ x → x < e → d1[x]! = d[x - (e - m)]! := fun x hx hy => r4 x (by omega) hy
  have q4 : ∀ x, e ≤ x → d1[x]! = d[x]! := fun x hx => r2 x (by omega)
  have hsm : s ≤ mid := by omega
  have hme : mid ≤ e := by omega
  refine ⟨h1, hsm, hme, h4, by rw [r1]; exact h.bs, ?_, ?_, ?_, ?_, ?_, ?_, ?_⟩
  · intro i j hi hij hj
    rw [q1 _ hj, q1 _ (by omega)]; exact h.s1 _ _ hi hij (by omega)
  · intro i j hi hij hj
    rw [q2 _ (by omega) hj, q2 _ hi (by omega)]; exact h.s2 _ _ (by omega) (by omega) (by omega)
  · intro i j hi hij hj
    rw [q3 _ (by omega) hj, q3 _ hi (by omega)]; exact h.s1 _ _ (by omega) (by omega) (by omega)
  · intro i j hi hij hj
    rw [q4 _ (by omega), q4 _ hi]; exact h.s2 _ _ (by omega) (by omega) (by omega)
  · intro i j hi his hj hjm
    rw [q1 _ his, q2 _ hj hjm]; exact h.tg _ _ hi (by omega) (by omega) (by omega)
  · intro i j hi his hj hjm
    rw [q3 _ hi his, q4 _ hj]; exact h.tg _ _ (by omega) (by omega) (by omega) hjm
  · intro i j hi him hj hjb
    by_cases c1 : i < s
    · rw [q1 _ c1]
      by_cases c2 : j < e
      · rw [q3 _ hj c2]; exact h.s1 _ _ hi (by omega) (by omega)
      · rw [q4 _ (by omega)]; exact gy _ _ hi c1 (by omega) hjb
    · rw [q2 _ (by omega) him]
      by_cases c2 : j < e
      · rw [q3 _ hj c2]; exact ltT_asym hS (gx _ _ (by omega) (by omega) (by omega) (by omega))
      · rw [q4 _ (by omega)]; exact h.s2 _ _ (by omega) (by omega) hjb
theorem Cross.left {a s mid e b : Nat} {d : Array Nat} (h : Cross lt a s mid e b d) (h1 : a < s) (h2 : s < mid) : Mp lt a s mid d :=
  ⟨h1, h2, by have := h.me; have := h.eb; have := h.bs; omega, h.p1, h.p2, h.t1⟩
/-- Without a first call the left half ascends. -/
theorem Cross.left_id {a s mid e b : Nat} {d : Array Nat} (h : Cross lt a s mid e b d) (hn : ¬ (a < s ∧ s < mid)) : Post lt a mid d d := by
  refine ⟨permIn_refl _ _ _, ?_⟩
  have := h.lo; have := h.sm
  by_cases c : a < s
  · have e : s = mid := by omega
    rw [← e]; exact h.p1
  · have e : a = s := by omega
    rw [e]; exact h.p2
theorem Cross.mid {a s mid e b : Nat} {d d2 : Array Nat} (h : Cross lt a s mid e b d) (hp : Post lt a mid d d2) : SortedIn (ltT lt) mid e d2 ∧ SortedIn (ltT lt) e b d2 ∧ (∀ i j, mid ≤ i → i < e → e ≤ j → j < b → d2[i]! < d2[j]!) ∧ (∀ i j, a ≤ i → i < mid → mid ≤ j → j < b → ltT lt d2[j]! d2[i]! = false) := by
  have e2 : ∀ x, mid ≤ x → d2[x]! = d[x]! := fun x hx => hp.1.2.1 x (.inr hx)
  have hme := h.me
  have heb := h.eb
  have hbs := h.bs
  refine ⟨fun i j hi hij hj => ?_, fun i j hi hij hj => ?_, fun i j hi hie hj hjb => ?_, fun i j hi him hj hjb => ?_⟩
  · rw [e2 _ (by omega), e2 _ (by omega)]; exact h.p3 _ _ hi hij hj
  · rw [e2 _ (by omega), e2 _ (by omega)]; exact h.p4 _ _ hi hij hj
  · rw [e2 _ (by omega), e2 _ (by omega)]; exact h.t2 _ _ hi hie hj hjb
  · rw [e2 _ hj]
    exact permIn_all d d2 a mid (fun v => ltT lt d[j]! v = false) (by omega) hp.1 (fun x hx hxm => h.cr x j hx hxm hj hjb) i hi him
theorem Cross.right {a s mid e b : Nat} {d d2 : Array Nat} (h : Cross lt a s mid e b d) (hp : Post lt a mid d d2) (h1 : mid < e) (h2 : e < b) : Mp lt mid e b d2 :=
  ⟨h1, h2, by rw [hp.1.1]; exact h.bs, (h.mid hp).1, (h.mid hp).2.1, (h.mid hp).2.2.1⟩
theorem Cross.right_id {a s mid e b : Nat} {d d2 : Array Nat} (h : Cross lt a s mid e b d) (hp : Post lt a mid d d2) (hn : ¬ (mid < e ∧ e < b)) : Post lt mid b d2 d2 := by
  refine ⟨permIn_refl _ _ _, ?_⟩
  have := h.me; have := h.eb
  by_cases c : mid < e
  · have e : e = b := by omega
    rw [← e]; exact (h.mid hp).1
  · have e : mid = e := by omega
    rw [e]; exact (h.mid hp).2.1
theorem Cross.done {a s mid e b : Nat} {d d2 d3 : Array Nat} (h : Cross lt a s mid e b d) (hp : Post lt a mid d d2) (hq : Post lt mid b d2 d3) : Post lt a b d d3 := by
  have hbs := h.bs
  have has := h.lo
  have hsm := h.sm
  have hme := h.me
  have heb := h.eb
  refine ⟨permIn_trans _ _ _ _ _ (permIn_mono d d2 a mid a b (Nat.le_refl _) (by omega) hbs hp.1) (permIn_mono d2 d3 mid b a b (by omega) (Nat.le_refl _) (by rw [hp.1.1]; exact hbs) hq.1), ?_⟩
  have e3 : ∀ x, x < mid → d3[x]! = d2[x]! := fun x hx => hq.1.2.1 x (.inl hx)
  intro i j hi hij hj
  by_cases c1 : j < mid
  · rw [e3 _ c1, e3 _ (by omega)]; exact hp.2 _ _ hi hij c1
  · by_cases c2 : i < mid
    · rw [e3 _ c2]
      exact permIn_all d2 d3 mid b (fun v => ltT lt v d2[i]! = false) (by rw [hp.1.1]; exact hbs) hq.1 (fun x hx hxb => (h.mid hp).2.2.2 i x hi c2 hx hxb) j (by omega) hj
    · exact hq.2 _ _ (by omega) hij hj

/-! ### blocks -/
/-- From lo to hi each block of B is ascending, and has its own numbers. -/
def Blk (lt : Nat → Nat → Bool) (B lo hi : Nat) (d : Array Nat) : Prop := ∀ i, lo ≤ i → i < hi → d[i]! / B = i / B ∧ ∀ j, i < j → j < hi → i / B = j / B → ltT lt d[j]! d[i]! = false
theorem div_blk {B q i : Nat} (hB : 0 < B) : i / B = q ↔ B * q ≤ i ∧ i < B * q + B := by
  rw [Nat.div_eq_iff hB]
  constructor
  · rintro ⟨h1, h2⟩; rw [Nat.mul_comm]; omega
  · rintro ⟨h1, h2⟩; rw [Nat.mul_comm q B]; omega
/-- A block more. -/
theorem blk_more {B q lo' hi : Nat} {d d' : Array Nat} (hB : 0 < B) (h : Blk lt B 0 (B * q) d) (hq : B * q ≤ hi) (hhi : hi ≤ B * q + B) (hs : hi ≤ d.size) (hp : PermIn (B * q) hi d d') (ht : ∀ i, B * q ≤ i → i < hi → d[i]! / B = q) (hso : SortedIn (ltT lt) (B * q) hi d') : Blk lt B 0 hi d' := by
  have hold : ∀ x, x < B * q → d'[x]! = d[x]! := fun x hx => hp.2.1 x (.inl hx)
  intro i _ hi'
  by_cases c : i < B * q
  · rw [hold i c]
    refine ⟨(h i (Nat.zero_le _) c).1, fun j hij hj he => ?_⟩
    have : j < B * q := by
      have e1 : i / B < q := by rw [Nat.div_lt_iff_lt_mul hB, Nat.mul_comm]; exact c
      rw [he, Nat.div_lt_iff_lt_mul hB, Nat.mul_comm] at e1
      exact e1
    rw [hold j this]
    exact (h i (Nat.zero_le _) c).2 j hij this he
  · have e : i / B = q := (div_blk hB).2 ⟨by omega, by omega⟩
    refine ⟨?_, fun j hij hj _ => hso i j (by omega) hij hj⟩
    rw [e]
    exact permIn_all d d' (B * q) hi (fun v => v / B = q) hs hp ht i (by omega) hi'
theorem blk_rest {B lo hi lo' hi' : Nat} {d d' : Array Nat} (h : Blk lt B lo' hi' d) (hp : PermIn lo hi d d') (hh : hi ≤ lo') : Blk lt B lo' hi' d' := by
  intro i h1 h2
  have e : ∀ x, lo' ≤ x → d'[x]! = d[x]! := fun x hx => hp.2.1 x (.inr (by omega))
  rw [e i h1]
  refine ⟨(h i h1 h2).1, fun j hij hj he => ?_⟩
  rw [e j (by omega)]
  exact (h i h1 h2).2 j hij hj he
theorem blk_mono {B lo hi lo' hi' : Nat} {d : Array Nat} (h : Blk lt B lo hi d) (h1 : lo ≤ lo') (h2 : hi' ≤ hi) : Blk lt B lo' hi' d := fun i a b => ⟨(h i (by omega) (by omega)).1, fun j c e f => (h i (by omega) (by omega)).2 j c (by omega) f⟩
theorem blk_sorted {B q lo hi : Nat} {d : Array Nat} (hB : 0 < B) (h : Blk lt B lo hi d) (h1 : B * q ≤ lo) (h2 : hi ≤ B * q + B) : SortedIn (ltT lt) lo hi d := fun i j hi' hij hj =>
  (h i hi' (by omega)).2 j hij hj (by rw [(div_blk (q := q) hB).2 ⟨by omega, by omega⟩, (div_blk (q := q) hB).2 ⟨by omega, by omega⟩])
theorem blk_tag {B q lo hi : Nat} {d : Array Nat} (hB : 0 < B) (h : Blk lt B lo hi d) (i : Nat) (h0 : lo ≤ i) (h3 : i < hi) (h1 : B * q ≤ i) (h2 : i < B * q + B) : B * q ≤ d[i]! ∧ d[i]! < B * q + B := by
  rw [← div_blk hB, (h i h0 h3).1, div_blk hB]
  exact ⟨h1, h2⟩
/-- Two blocks side by side can be merged. -/
theorem blk_mp {B q n b : Nat} {d : Array Nat} (hB : 0 < B) (h : Blk lt B (2 * B * q) n d) (hn : n ≤ d.size) (h1 : 2 * B * q + B < b) (h2 : b ≤ 2 * B * q + 2 * B) (h3 : b ≤ n) : Mp lt (2 * B * q) (2 * B * q + B) b d := by
  have e1 : B * (2 * q) = 2 * B * q := by rw [← Nat.mul_assoc, Nat.mul_comm B 2]
  have e2 : B * (2 * q + 1) = 2 * B * q + B := by rw [Nat.mul_add, e1, Nat.mul_one]
  refine ⟨by omega, h1, by omega, blk_sorted (q := 2 * q) hB (blk_mono h (Nat.le_refl _) (by omega)) (by omega) (by omega), blk_sorted (q := 2 * q + 1) hB (blk_mono h (by omega) h3) (by omega) (by omega), fun i j hi him hj hjb => ?_⟩
  have k1 := blk_tag (q := 2 * q) hB h i hi (by omega) (by omega) (by omega)
  have k2 := blk_tag (q := 2 * q + 1) hB h j (by omega) (by omega) (by omega) (by omega)
  omega
theorem blk_tag2 {B q n : Nat} {d : Array Nat} (hB : 0 < B) (h : Blk lt B (2 * B * q) n d) (i : Nat) (h1 : 2 * B * q ≤ i) (h2 : i < n) (h3 : i < 2 * B * q + 2 * B) : d[i]! / (2 * B) = q := by
  have e1 : B * (2 * q) = 2 * B * q := by rw [← Nat.mul_assoc, Nat.mul_comm B 2]
  have e2 : B * (2 * q + 1) = 2 * B * q + B := by rw [Nat.mul_add, e1, Nat.mul_one]
  rw [div_blk (by omega)]
  by_cases c : i < 2 * B * q + B
  · have := blk_tag (q := 2 * q) hB h i h1 h2 (by omega) (by omega); omega
  · have := blk_tag (q := 2 * q + 1) hB h i h1 h2 (by omega) (by omega); omega

/-- The one stable order of n elements. -/
def stab (lt : Nat → Nat → Bool) (n : Nat) : Array Nat := insertionSort lt (Array.range n) 0 n
theorem get_range {n i : Nat} (h : i < n) : (Array.range n)[i]! = i := by rw [getElem!_pos _ i (by simpa using h)]; simp
theorem stab_of (h : SWO lt) {n : Nat} {d : Array Nat} (hp : PermIn 0 n (Array.range n) d) (hs : SortedIn (ltT lt) 0 n d) : d = stab lt n := by
  unfold stab
  rw [ins_tag h 0 n _ (Nat.zero_le _) (by simp) (fun x y _ hxy hy => by rw [get_range (by omega), get_range hy]; exact hxy)]
  have h2 := insertionSort_holds (swo_ltT h) (Array.range n) 0 n (Nat.zero_le _) (by simp)
  have u := sorted_unique_holds (lt := ltT lt) (swo_ltT h) (fun x y h1 h2 => ltT_total h h1 h2)
  have hz : (Array.range n).size = n := by simp
  have a1 := u (Array.range n) d (by rw [hz]; exact hp) (by rw [hz]; exact hs)
  have a2 := u (Array.range n) _ (by rw [hz]; exact h2.1) (by rw [hz]; exact h2.2)
  exact Array.toList_inj.1 (a1.trans a2.symm)
theorem stab_perm (h : SWO lt) (n : Nat) : PermIn 0 n (Array.range n) (stab lt n) := (insertionSort_holds h (Array.range n) 0 n (Nat.zero_le _) (by simp)).1
theorem stab_size (h : SWO lt) (n : Nat) : (stab lt n).size = n := by rw [(stab_perm h n).1]; simp
theorem stab_sorted (h : SWO lt) (n : Nat) : SortedIn lt 0 n (stab lt n) := (insertionSort_holds h (Array.range n) 0 n (Nat.zero_le _) (by simp)).2
/-- The blocks of 20, one by one. -/
theorem blk_ins (h : SWO lt) {B q n b : Nat} {d : Array Nat} (hB : 0 < B) (hsz : d.size = n) (hb : Blk lt B 0 (B * q) d) (hid : ∀ i, B * q ≤ i → i < n → d[i]! = i) (hq : B * q ≤ b) (hbq : b ≤ B * q + B) (hbn : b ≤ n) :
    Blk lt B 0 b (insertionSort lt d (B * q) b) ∧ (insertionSort lt d (B * q) b).size = n ∧ (∀ i, b ≤ i → i < n → (insertionSort lt d (B * q) b)[i]! = i) ∧ PermIn 0 n d (insertionSort lt d (B * q) b) := by
  have ht : ∀ x y, B * q ≤ x → x < y → y < b → d[x]! < d[y]! := fun x y hx hxy hy => by rw [hid x hx (by omega), hid y (by omega) (by omega)]; exact hxy
  rw [ins_tag h (B * q) b d hq (by omega) ht]
  have h2 := insertionSort_holds (swo_ltT h) d (B * q) b hq (by omega)
  refine ⟨blk_more (lo' := 0) hB hb hq hbq (by omega) h2.1 (fun i hi hib => ?_) h2.2, by rw [h2.1.1, hsz], fun i hi hin => ?_, permIn_mono _ _ _ _ _ _ (Nat.zero_le _) hbn (by omega) h2.1⟩
  · rw [hid i hi (by omega), div_blk hB]; omega
  · rw [h2.1.2.1 i (.inr hi)]; exact hid i (by omega) hin
theorem blk_end (h : SWO lt) {B n : Nat} {d : Array Nat} (hB : n ≤ B) (hb : Blk lt B 0 n d) (hp : PermIn 0 n (Array.range n) d) : d = stab lt n := by
  refine stab_of h hp ?_
  intro i j _ hij hj
  exact (hb i (Nat.zero_le _) (by omega)).2 j hij hj (by rw [Nat.div_eq_of_lt (by omega), Nat.div_eq_of_lt (by omega)])
end Go.Proofs.YteoljiclmhmbnaaDoor.St

/-
  Small laws of memory: an append of one element into a row of the call's own, whatever the world before it; blocks that stay.
-/
set_option linter.unusedVariables false
set_option linter.unusedSimpArgs false
namespace Go.Proofs.YteoljiclmhmbnaaDoor.K
open Go.RowKit Go.Proofs.YteoljiclmhmbnaaDoorW.PrintWords

theorem ba_ext {a b : ByteArray} (h : a.data = b.data) : a = b := by cases a; cases b; simp at h; rw [h]
instance instDecEqBA : DecidableEq ByteArray := fun a b => if h : a.data = b.data then isTrue (ba_ext h) else isFalse (by rintro rfl; exact h rfl)
theorem ba_toList {a b : ByteArray} (h : a.toList = b.toList) : a = b := by
  have := congrArg (fun l => (⟨l.toArray⟩ : ByteArray)) h
  exact ba_ext (by simpa [ByteArray.toList_eq] using this)

/-- Whether a list has something. -/
def memB {α : Type} [DecidableEq α] (x : α) (xs : List α) : Bool := xs.any fun y => decide (y = x)
theorem memB_iff {α : Type} [DecidableEq α] {x : α} {xs : List α} : memB x xs = true ↔ x ∈ xs := by simp [memB]
theorem memB_true {α : Type} [DecidableEq α] {x : α} {xs : List α} (h : x ∈ xs) : memB x xs = true := memB_iff.2 h
theorem memB_false {α : Type} [DecidableEq α] {x : α} {xs : List α} (h : x ∉ xs) : memB x xs = false := by
  cases hb : memB x xs
  · rfl
  · exact absurd (memB_iff.1 hb) h

theorem lt_of_heap {w : World} {a : Nat} {o : Obj} (h : w.heap[a]? = some o) : a < w.heap.size := (Array.getElem?_eq_some_iff.1 h).1
theorem typ_ne {w : World} {a b : Nat} {c d : Array Value} {s t : Nat} {f g : Nat × Nat} (h : w.heap[a]? = some (.cells c s f)) (k : w.heap[b]? = some (.cells d t g)) (hn : s ≠ t) : a ≠ b := by
  rintro rfl
  rw [h] at k
  injection k with k
  injection k with _ k
  exact hn k
theorem own_heap {w : World} {base e size n : Nat} {v : Value} {xs : List Value} (h : w.ownsRow base e size v n xs) {g : Nat} (hg : v.ownBlock = some g) : ∃ cur, w.heap[g]? = some (.cells cur e (0, 0)) := by
  rcases h.2 with ⟨rfl, _⟩ | ⟨g', cap, cur, rfl, _, hh, _⟩
  · simp [Value.ownBlock] at hg
  · simp [Value.ownBlock] at hg
    subst hg
    exact ⟨cur, hh⟩
theorem own_keep {w w1 : World} {base e size n : Nat} {v : Value} {xs : List Value} (h : w.ownsRow base e size v n xs) (hm : ∀ k, v.ownBlock = some k → w1.heap[k]? = w.heap[k]?) : w1.ownsRow base e size v n xs := by
  obtain ⟨h1, h2⟩ := h
  refine ⟨h1, ?_⟩
  rcases h2 with h2 | ⟨g, cap, cur, rfl, hg, hh, r⟩
  · exact .inl h2
  · exact .inr ⟨g, cap, cur, rfl, hg, (hm g (by simp [Value.ownBlock])).trans hh, r⟩
theorem cell_of_heap {w : World} {b : Nat} {c : Array Value} {t : Nat} {f : Nat × Nat} (h : w.heap[b]? = some (.cells c t f)) (j : Nat) : w.cell? ⟨b, j, none⟩ = c[j]? := by
  simp [World.cell?, h]
theorem frozen_of_heap {w : World} {b : Nat} {c : Array Value} {t : Nat} (h : w.heap[b]? = some (.cells c t (0, 0))) (j : Nat) : w.frozen? ⟨b, j, none⟩ = false := by
  simp [World.frozen?, h]
theorem heap_new (w : World) (o : Obj) : (w.alloc o).heap[w.heap.size]? = some o := heap_alloc_new w o
theorem heap_old {w : World} {k : Nat} {x : Obj} (h : w.heap[k]? = some x) (o : Obj) : (w.alloc o).heap[k]? = some x := by
  rw [heap_alloc_old w o (lt_of_heap h)]; exact h
theorem heap_old' (w : World) (o : Obj) {k : Nat} (h : k < w.heap.size) : (w.alloc o).heap[k]? = w.heap[k]? := heap_alloc_old w o h
theorem heap_set {w : World} {b : Nat} {c : Array Value} {t : Nat} {f : Nat × Nat} (h : w.heap[b]? = some (.cells c t f)) (j : Nat) (v : Value) : (w.setCell ⟨b, j, none⟩ v).heap[b]? = some (.cells (c.setIfInBounds j v) t f) := by
  simp [World.setCell, Array.getElem?_modify, h]
theorem heap_set_ne {w : World} {b k : Nat} (hn : k ≠ b) (j : Nat) (v : Value) : (w.setCell ⟨b, j, none⟩ v).heap[k]? = w.heap[k]? := Below.heap_setCell w ⟨b, j, none⟩ v k hn
theorem size_set (w : World) (a : Addr) (v : Value) : (w.setCell a v).heap.size = w.heap.size := by simp [World.setCell]
theorem size_alloc (w : World) (o : Obj) : (w.alloc o).heap.size = w.heap.size + 1 := by simp

/-- Blocks laid one behind the other. -/
def allocs (w : World) : List Obj → World
  | [] => w
  | o :: r => allocs (w.alloc o) r
theorem allocs_size (w : World) : ∀ os, (allocs w os).heap.size = w.heap.size + os.length := by
  intro os
  induction os generalizing w with
  | nil => rfl
  | cons o r ih => rw [allocs, ih, size_alloc, List.length_cons]; omega
theorem allocs_old (w : World) {k : Nat} (h : k < w.heap.size) : ∀ os, (allocs w os).heap[k]? = w.heap[k]? := by
  intro os
  induction os generalizing w with
  | nil => rfl
  | cons o r ih => rw [allocs, ih _ (by rw [size_alloc]; omega), heap_old' _ _ h]
theorem allocs_new (w : World) : ∀ (os : List Obj) (i : Nat) (o : Obj), os[i]? = some o → (allocs w os).heap[w.heap.size + i]? = some o := by
  intro os
  induction os generalizing w with
  | nil => intro i o h; simp at h
  | cons o r ih =>
    intro i o' h
    rw [allocs]
    cases i with
    | zero =>
      simp at h
      subst h
      rw [Nat.add_zero, allocs_old _ (by rw [size_alloc]; omega), heap_new]
    | succ i =>
      have := ih (w.alloc o) i o' (by simpa using h)
      rw [size_alloc] at this
      rw [show w.heap.size + (i + 1) = w.heap.size + 1 + i by omega]
      exact this
theorem allocs_below (w : World) (os : List Obj) : Below w.heap.size w (allocs w os) := by
  induction os generalizing w with
  | nil => exact Below.refl _ _
  | cons o r ih => exact ((Below.refl _ _).alloc (Nat.le_refl _) o).trans ((ih _).mono (by rw [size_alloc]; omega))
/-- A block that holds a row is read as the row. -/
theorem C_of_block {α : Type} {d : Kd α} {w : World} {b : Nat} {cs : List Value} {xs : List α} {e : Nat} {fr : Nat × Nat} (h : w.heap[b]? = some (.cells cs.toArray e fr)) (hr : Reps (d.K w) d.sz xs cs) (hl : xs.length ≤ 9223372036854775807) :
    d.C w (some ⟨b, 0, none⟩) xs.length xs := by
  refine ⟨rfl, hl, fun _ => ⟨_, rfl, fun j p hp => ⟨(cs.drop (j * d.sz)).take d.sz, ?_, hr.2 j p hp, ?_⟩⟩⟩
  · have hj := (List.getElem?_eq_some_iff.1 hp).1
    have h1 : j * d.sz + d.sz ≤ cs.length := by rw [hr.1, ← Nat.succ_mul]; exact Nat.mul_le_mul_right _ hj
    rw [List.length_take, List.length_drop]; omega
  · intro i u hu
    rw [add_plain, cell_of_heap h]
    rw [List.getElem?_take] at hu
    split at hu
    · rw [List.getElem?_drop] at hu
      simpa using hu
    · cases hu
theorem C_of_arr {α : Type} {d : Kd α} {w : World} {b : Nat} {cs : Array Value} {xs : List α} {e : Nat} {fr : Nat × Nat} (h : w.heap[b]? = some (.cells cs e fr)) (hr : Reps (d.K w) d.sz xs cs.toList) (hl : xs.length ≤ 9223372036854775807) :
    d.C w (some ⟨b, 0, none⟩) xs.length xs := C_of_block (cs := cs.toList) (by rw [h]) hr hl
theorem reps_strs (w : World) (xs : List ByteArray) : Reps (Kd.string.K w) Kd.string.sz xs (xs.map Value.string) := Kd.reps_scalar xs
theorem reps_bools (w : World) (xs : List Bool) : Reps (Kd.bool.K w) Kd.bool.sz xs (xs.map Value.bool) := Kd.reps_scalar xs
theorem reps_ints (w : World) (k : IntKind) (xs : List Int) : Reps ((Kd.int k).K w) (Kd.int k).sz xs (xs.map (Value.int k)) := Kd.reps_scalar xs
/-- Rows in line. -/
theorem reps_cons {α : Type} {R : α → List Value → Prop} {size : Nat} {p : α} {ps : List α} {c cs : List Value} (hp : R p c) (hc : c.length = size) (h : Reps R size ps cs) : Reps R size (p :: ps) (c ++ cs) := by
  refine ⟨by rw [List.length_append, h.1, hc, List.length_cons, Nat.add_mul, Nat.one_mul, Nat.add_comm], fun j q hq => ?_⟩
  cases j with
  | zero =>
    simp at hq
    subst hq
    rw [Nat.zero_mul, List.drop_zero, List.take_left' hc]
    exact hp
  | succ j =>
    have h2 := h.2 j q (by simpa using hq)
    rw [Nat.succ_mul, Nat.add_comm, ← hc, ← List.drop_drop, List.drop_left, hc]
    exact h2

theorem cell_new0 (w : World) (y : Value) (e : TypeId) : (w.alloc (.cells #[y] e)).cell? ⟨w.heap.size, 0, none⟩ = some y := by
  rw [cell_of_heap (heap_new w _)]; rfl
theorem cell_new1 (w : World) (o : Obj) (y : Value) (e : TypeId) : ((w.alloc o).alloc (.cells #[y] e)).cell? ⟨w.heap.size + 1, 0, none⟩ = some y := by
  have h := cell_new0 (w.alloc o) y e
  rwa [size_alloc] at h

section
variable {P : Program} {ops : Array Oper} {rest : List Oper} {o : Oper} {a : Act} {Q : Exit → Act → World → Prop}
/-- append(v, y) into a row of the call's own, from base on; the new element lies at block g. -/
theorem app1 {w0 W : World} (base : Nat) (hgd : o.guard = none) (s x : Operand) (t e : TypeId) (z : Value) (bytes : Nat)
    (ho : o.op = .call { callee := .builtin .append, args := #[s, x], argTypes := #[t, t] })
    (ht : P.underlying t = some (.slice e)) (hinfo : (P.info? e).map (fun i => (i.zero, i.size, i.bytes)) = some (some z, 1, bytes)) (hz : z.cells.size = 1) (hb0 : 0 < bytes)
    (v : Value) (xs : List Value) (y : Value) (g : Nat) (hs : a.eval s = v) (hx : a.eval x = .slice (some ⟨g, 0, none⟩) 1 1) (hg : W.cell? ⟨g, 0, none⟩ = some y) (h1 : y.oneCell' = true)
    (HO : W.ownsRow base e 1 v xs.length xs) (HB : Below base w0 W) (hbase : base ≤ W.heap.size) (hl : (xs.length + 1) * bytes ≤ 140737488355328)
    (h : ∀ v1 w1, w1.ownsRow base e 1 v1 (xs ++ [y]).length (xs ++ [y]) → Below base w0 w1 → W.grownBy w1 v.ownBlock → (v1.ownBlock = v.ownBlock ∨ ∃ b, v1.ownBlock = some b ∧ W.heap.size ≤ b) → wpList P ops Q rest (a.put o.dst v1) w1) :
    wpList P ops Q (o :: rest) a W := by
  obtain ⟨i0, hi, hzz⟩ := Option.map_eq_some_iff.1 hinfo
  simp only [Prod.mk.injEq] at hzz
  obtain ⟨hz0, hz1, hz2⟩ := hzz
  have hlen : xs.length + 1 ≤ 140737488355328 := Nat.le_trans (Nat.le_mul_of_pos_right _ hb0) hl
  refine wpList_append_own_at W hgd s x t ho base e i0 z 1 bytes ht hi hz0 hz1 hz2 hz (by omega) v xs.length xs hs HO ⟨g, 0, none⟩ 1 1 [y] hx rfl
    ?_ (by simpa using h1) (by simp only [maxLen]; omega) hl (by omega) ?_
  · intro j u hj
    cases j with
    | zero => simp at hj; subst hj; simpa [Addr.add] using hg
    | succ j => simp at hj
  intro v1 w1 hown hgr _ hat
  refine h v1 w1 (by simpa using hown) (HB.grown hgr hbase (own_base HO)) hgr ?_
  rcases hat with hat | hat
  · exact .inl hat
  · exact .inr ⟨_, hat, Nat.le_refl _⟩

/-- append(v, p) into a row of kind d, from base on; p's cells cs lie at block g. -/
theorem kapp {α : Type} (d : Kd α) {w0 W : World} (base : Nat) (hgd : o.guard = none) (s x : Operand) (t e : TypeId) (z : Value) (bytes : Nat)
    (ho : o.op = .call { callee := .builtin .append, args := #[s, x], argTypes := #[t, t] })
    (ht : P.underlying t = some (.slice e)) (hinfo : (P.info? e).map (fun i => (i.zero, i.size, i.bytes)) = some (some z, d.sz, bytes)) (hz : z.cells.size = d.sz) (hs0 : 0 < d.sz) (hb0 : 0 < bytes)
    (v : Value) (xs : List α) (p : α) (cs : List Value) (ok okp : Nat → Prop) (g : Nat) (hs : a.eval s = v) (hx : a.eval x = .slice (some ⟨g, 0, none⟩) 1 1) (hg : ∀ j u, cs[j]? = some u → W.cell? ⟨g, j, none⟩ = some u)
    (hp : d.M W base okp p cs) (hokp : ∀ k, okp k → ok k ∧ some k ≠ v.ownBlock) (hfresh : ∀ k, W.heap.size ≤ k → ok k)
    (HO : d.R e W base ok v xs) (HB : Below base w0 W) (hbase : base ≤ W.heap.size) (hl : (xs.length + 1) * bytes ≤ 140737488355328)
    (h : ∀ v1 w1, d.R e w1 base ok v1 (xs ++ [p]) → Below base w0 w1 → W.grownBy w1 v.ownBlock → (v1.ownBlock = v.ownBlock ∨ ∃ b, v1.ownBlock = some b ∧ W.heap.size ≤ b) → wpList P ops Q rest (a.put o.dst v1) w1) :
    wpList P ops Q (o :: rest) a W := by
  obtain ⟨i0, hi, hzz⟩ := Option.map_eq_some_iff.1 hinfo
  simp only [Prod.mk.injEq] at hzz
  obtain ⟨hz0, hz1, hz2⟩ := hzz
  have hlen : xs.length + 1 ≤ 140737488355328 := Nat.le_trans (Nat.le_mul_of_pos_right _ hb0) hl
  obtain ⟨h0, inner, hown, hr⟩ := HO
  have hcl : cs.length = d.sz := d.K_len (d.K_of_M hp)
  refine wpList_append_own_at W hgd s x t ho base e i0 z d.sz bytes ht hi hz0 hz1 hz2 hz hs0 v xs.length inner hs hown ⟨g, 0, none⟩ 1 1 cs hx (by omega)
    ?_ (d.K_one (d.K_of_M hp)) (by simp only [maxLen]; omega) hl (by omega) ?_
  · intro j u hj
    have := hg j u hj
    rcases Nat.eq_zero_or_pos j with rfl | hj0
    · simpa [Addr.add] using this
    · rw [Addr.add]; simp; rw [if_neg (by omega)]; exact this
  intro v1 w1 hown1 hgr _ hat
  have hat' : v1.ownBlock = v.ownBlock ∨ ∃ b, v1.ownBlock = some b ∧ W.heap.size ≤ b := by
    rcases hat with hat | hat
    · exact .inl hat
    · exact .inr ⟨_, hat, Nat.le_refl _⟩
  exact h v1 w1 (Kd.R_appended h0 hr hp hokp hfresh hown1 hgr hat') (HB.grown hgr hbase (own_base hown)) hgr hat'
end

/-- A text's place in a list of texts. -/
theorem strs_at {w : World} {A : Option Addr} {n : Nat} {xs : List ByteArray} (h : Kd.string.C w A n xs) : ∀ j (hj : j < xs.length), ∃ ad, A = some ad ∧ w.cell? (ad.add j) = some (.string xs[j]) := by
  intro j hj
  obtain ⟨ad, hA, hc⟩ := h.2.2 (by have := h.1; omega)
  obtain ⟨c, hl, hk, hcell⟩ := hc j xs[j] (List.getElem?_eq_getElem hj)
  have hk' : c = [.string xs[j]] := hk
  subst hk'
  have := hcell 0 _ rfl
  have e : Kd.string.sz = 1 := rfl
  rw [e, Nat.mul_one, Nat.add_zero] at this
  exact ⟨ad, hA, this⟩
/-- A row's place in a list of rows. -/
theorem rows_at {α : Type} {d : Kd α} {e : Nat} {w : World} {A : Option Addr} {n : Nat} {xs : List (List α)} (h : (Kd.slice e d).C w A n xs) : ∀ j (hj : j < xs.length), ∃ ad A' c', A = some ad ∧ w.cell? (ad.add j) = some (.slice A' xs[j].length c') ∧ xs[j].length ≤ c' ∧ d.C w A' xs[j].length xs[j] := by
  intro j hj
  obtain ⟨ad, hA, hc⟩ := h.2.2 (by have := h.1; omega)
  obtain ⟨c, hl, hk, hcell⟩ := hc j xs[j] (List.getElem?_eq_getElem hj)
  obtain ⟨A', c', rfl, hl', hC⟩ := hk
  have := hcell 0 _ rfl
  have e : (Kd.slice e d).sz = 1 := rfl
  rw [e, Nat.mul_one, Nat.add_zero] at this
  exact ⟨ad, A', c', hA, this, hl', hC⟩
/-- Nothing in an empty row of the call's own. -/
theorem R_empty {α : Type} (d : Kd α) (e : Nat) (w : World) (base : Nat) (hb : base ≤ w.heap.size) : d.R e (w.alloc (.cells #[] e)) base (fun _ => True) (.slice (some ⟨w.heap.size, 0, none⟩) 0 0) [] := by
  refine ⟨fun _ _ => trivial, [], World.ownsRow_made w #[] 0 hb (Nat.zero_le _) (by simp), ⟨by simp, fun j p h => by simp at h⟩⟩
/-- A row of the call's own is returned. -/
def RetRow {α : Type} (d : Kd α) (e : Nat) (xs : List α) (w : World) (en : Ending) (w' : World) : Prop :=
  ∃ v, en = .returned v ∧ d.R e w' w.heap.size (fun _ => True) v xs ∧ Below w.heap.size w w'

end Go.Proofs.YteoljiclmhmbnaaDoor.K

/-
  Elements of impl.Unknown as the cells they are, in a row of one's own (printed by gen_cells.py).
-/
set_option linter.unusedVariables false
set_option linter.unusedSimpArgs false
namespace Go.Proofs.YteoljiclmhmbnaaDoor.Tx
open Go.RowKit Go.Proofs.YteoljiclmhmbnaaDoor.K Go.Proofs.YteoljiclmhmbnaaDoorW.PrintWords

abbrev Sl : Type := Option Addr × Nat × Nat
def slV (s : Sl) : Value := .slice s.1 s.2.1 s.2.2
abbrev ChU : Type := Int × Int × Int × Int × Sl
def encU (m : ChU) : List Value := [.int .i64 m.1, .int .i64 m.2.1, .int .i64 m.2.2.1, .int .i64 m.2.2.2.1, slV m.2.2.2.2]
theorem encU_one (x : ChU) : ∀ u ∈ encU x, u.oneCell' = true := by
  intro u hu
  simp [encU] at hu
  rcases hu with rfl | rfl | rfl | rfl | rfl <;> rfl
def kChU : Kd ChU where
  sz := 5
  E := []
  K := fun _ x cs => cs = encU x
  M := fun _ _ _ x cs => cs = encU x
  K_len := by rintro w x cs rfl; rfl
  K_one := by rintro w x cs rfl u hu; exact encU_one x u hu
  K_below := fun _ h => h
  K_of_M := fun h => h
  M_mono := fun _ h => h
  M_bound := fun h => h
  M_move := fun _ h => h
  M_lower := fun _ h => h
theorem reps_iffU {base : Nat} {ok : Nat → Prop} {w : World} {l : List ChU} {inner : List Value} : Reps (kChU.M w base ok) kChU.sz l inner ↔ inner = l.flatMap encU := by
  have e2 : kChU.sz = 5 := rfl
  constructor
  · intro h
    induction l generalizing inner with
    | nil =>
      have := h.1
      simp at this
      rw [this]; rfl
    | cons m r ih =>
      have h0 := h.2 0 m (by simp)
      have hh : inner.take 5 = encU m := by
        have := h0
        rw [e2, Nat.zero_mul, List.drop_zero] at this
        exact this
      have ht := ih (inner := inner.drop 5) ⟨by rw [List.length_drop, h.1, e2, List.length_cons]; omega, fun j p hp => by
        have := h.2 (j + 1) p (by simpa using hp)
        rw [e2] at this ⊢
        rw [List.drop_drop, show 5 + j * 5 = (j + 1) * 5 by omega]
        exact this⟩
      rw [← List.take_append_drop 5 inner, hh, ht]
      rfl
  · rintro rfl
    refine ⟨?_, fun j p hp => ?_⟩
    · rw [e2]
      induction l with
      | nil => rfl
      | cons m r ih => rw [List.flatMap_cons, List.length_append, ih, List.length_cons]; simp [encU]; omega
    · rw [e2]
      show ((l.flatMap encU).drop (j * 5)).take 5 = encU p
      induction l generalizing j with
      | nil => simp at hp
      | cons m r ih =>
        cases j with
        | zero => simp at hp; subst hp; rfl
        | succ j =>
          have := ih j (by simpa using hp)
          rw [List.flatMap_cons, show (j + 1) * 5 = j * 5 + 1 + 1 + 1 + 1 + 1 by omega]
          show ((Value.int .i64 m.1 :: Value.int .i64 m.2.1 :: Value.int .i64 m.2.2.1 :: Value.int .i64 m.2.2.2.1 :: slV m.2.2.2.2 :: r.flatMap encU).drop (j * 5 + 1 + 1 + 1 + 1 + 1)).take 5 = encU p
          rw [List.drop_succ_cons, List.drop_succ_cons, List.drop_succ_cons, List.drop_succ_cons, List.drop_succ_cons]
          exact this
theorem flat_lenU (l : List ChU) : (l.flatMap encU).length = 5 * l.length := by
  induction l with
  | nil => rfl
  | cons m r ih => rw [List.flatMap_cons, List.length_append, ih, List.length_cons]; simp [encU]; omega
theorem flat_setU : ∀ (l : List ChU) (i : Nat) (x : ChU), i < l.length → (((((l.flatMap encU).set (5 * i) (.int .i64 x.1)).set (5 * i + 1) (.int .i64 x.2.1)).set (5 * i + 2) (.int .i64 x.2.2.1)).set (5 * i + 3) (.int .i64 x.2.2.2.1)).set (5 * i + 4) (slV x.2.2.2.2) = (l.set i x).flatMap encU
  | [], i, x, h => by simp at h
  | m :: r, 0, x, h => rfl
  | m :: r, i + 1, x, h => by
    have ih := flat_setU r i x (by simpa using h)
    rw [List.set_cons_succ, List.flatMap_cons, List.flatMap_cons, ← ih, show 5 * (i + 1) = 5 * i + 1 + 1 + 1 + 1 + 1 by omega]
    rfl
/-- An element is put into a row of one's own. -/
theorem R_setU {e base g cap n : Nat} {ok : Nat → Prop} {w : World} {l : List ChU} (h : kChU.R e w base ok (.slice (some ⟨g, 0, none⟩) n cap) l) (i : Nat) (hi : i < l.length) (x : ChU) :
    kChU.R e (((((w.setCell ⟨g, i * 5, none⟩ (.int .i64 x.1)).setCell ⟨g, i * 5 + 1, none⟩ (.int .i64 x.2.1)).setCell ⟨g, i * 5 + 2, none⟩ (.int .i64 x.2.2.1)).setCell ⟨g, i * 5 + 3, none⟩ (.int .i64 x.2.2.2.1)).setCell ⟨g, i * 5 + 4, none⟩ (slV x.2.2.2.2)) base ok (.slice (some ⟨g, 0, none⟩) n cap) (l.set i x) := by
  rw [Nat.mul_comm i 5]
  obtain ⟨h0, inner, ho, hr⟩ := h
  obtain rfl := reps_iffU.1 hr
  refine ⟨h0, (l.set i x).flatMap encU, ?_, reps_iffU.2 rfl⟩
  · obtain ⟨hl, h2⟩ := ho
    rcases h2 with ⟨he, _⟩ | ⟨g', cap', cur, he, hb, hh, hnc, hcm, hcs, ht⟩
    · cases he
    · cases he
      rw [List.length_set]
      refine ⟨by rw [flat_lenU, List.length_set, ← flat_lenU]; exact hl, .inr ⟨g, cap, _, rfl, hb, (heap_set (heap_set (heap_set (heap_set (heap_set hh _ _) _ _) _ _) _ _) _ _), hnc, hcm, by simpa using hcs, ?_⟩⟩
      rw [Array.toList_setIfInBounds, Array.toList_setIfInBounds, Array.toList_setIfInBounds, Array.toList_setIfInBounds, Array.toList_setIfInBounds, List.take_set, List.take_set, List.take_set, List.take_set, List.take_set, ht]
      exact flat_setU l i x hi
/-- The cells of a row of the call's own. -/
theorem row_cellsU {w : World} {base e g cap : Nat} {ok : Nat → Prop} {l : List ChU} (h : kChU.R e w base ok (.slice (some ⟨g, 0, none⟩) l.length cap) l) :
    base ≤ g ∧ g < w.heap.size ∧ (∀ j (hj : j < l.length), w.cell? ⟨g, j * 5, none⟩ = some (.int .i64 l[j].1) ∧ w.cell? ⟨g, j * 5 + 1, none⟩ = some (.int .i64 l[j].2.1) ∧ w.cell? ⟨g, j * 5 + 2, none⟩ = some (.int .i64 l[j].2.2.1) ∧ w.cell? ⟨g, j * 5 + 3, none⟩ = some (.int .i64 l[j].2.2.2.1) ∧ w.cell? ⟨g, j * 5 + 4, none⟩ = some (slV l[j].2.2.2.2)) ∧ (∀ j, w.frozen? ⟨g, j, none⟩ = false) := by
  obtain ⟨_, inner, ho, hr⟩ := h
  obtain rfl := reps_iffU.1 hr
  rcases ho.2 with ⟨he, _⟩ | ⟨g', cap', cur, he, hg, hh, _, _, _, ht⟩
  · cases he
  · cases he
    have hcell : ∀ j u, (l.flatMap encU)[j]? = some u → w.cell? ⟨g, j, none⟩ = some u := fun j u hu => by
      have := ho.cells (g := g) rfl j u hu
      rwa [add_plain] at this
    have hget : ∀ (l : List ChU) (j : Nat) (hj : j < l.length), (l.flatMap encU)[5 * j]? = some (.int .i64 l[j].1) ∧ (l.flatMap encU)[5 * j + 1]? = some (.int .i64 l[j].2.1) ∧ (l.flatMap encU)[5 * j + 2]? = some (.int .i64 l[j].2.2.1) ∧ (l.flatMap encU)[5 * j + 3]? = some (.int .i64 l[j].2.2.2.1) ∧ (l.flatMap encU)[5 * j + 4]? = some (slV l[j].2.2.2.2) := by
      intro l
      induction l with
      | nil => intro j hj; simp at hj
      | cons m r ih =>
        intro j hj
        cases j with
        | zero => exact ⟨rfl, rfl, rfl, rfl, rfl⟩
        | succ j =>
          have := ih j (by simpa using hj)
          rw [show 5 * (j + 1) = 5 * j + 1 + 1 + 1 + 1 + 1 by omega]
          exact this
    exact ⟨hg, lt_of_heap hh, fun j hj => ⟨hcell _ _ (by rw [Nat.mul_comm]; exact (hget l j hj).1), hcell _ _ (by rw [Nat.mul_comm]; exact (hget l j hj).2.1), hcell _ _ (by rw [Nat.mul_comm]; exact (hget l j hj).2.2.1), hcell _ _ (by rw [Nat.mul_comm]; exact (hget l j hj).2.2.2.1), hcell _ _ (by rw [Nat.mul_comm]; exact (hget l j hj).2.2.2.2)⟩, fun j => frozen_of_heap hh j⟩
end Go.Proofs.YteoljiclmhmbnaaDoor.Tx

/-
  Lists in the order of numbers (plain); entries of unknown words and classes in memory.
-/
set_option linter.unusedVariables false
set_option linter.unusedSimpArgs false
namespace Go.Proofs.YteoljiclmhmbnaaDoor.Tx
open Go.RowKit Go.Proofs.YteoljiclmhmbnaaDoor.K Go.Proofs.YteoljiclmhmbnaaDoorW.PrintWords
open Go.Sort (Holds putRow mapBlock putCells onCells grow SWO SortedIn PermIn ltStr insInner insOuter insertionSort)
open Go.Proofs.YteoljiclmhmbnaaDoor.St (stab)

theorem ltC : ∀ (a b : List UInt8), decide (Lib.compareBytes a b < 0) = ltStr a b
  | [], [] => by simp [Lib.compareBytes, ltStr]
  | [], y :: b => by simp [Lib.compareBytes, ltStr]
  | x :: a, [] => by simp [Lib.compareBytes, ltStr]
  | x :: a, y :: b => by
    have ih := ltC a b
    unfold ltStr at ih ⊢
    rw [Lib.compareBytes]
    by_cases h1 : x < y
    · simp [h1, List.cons_lt_cons_iff]
    · by_cases h2 : y < x
      · have hne : x ≠ y := by rintro rfl; exact h1 h2
        simp [h1, h2, List.cons_lt_cons_iff, hne]
      · have he : x = y := UInt8.le_antisymm (UInt8.not_lt.1 h2) (UInt8.not_lt.1 h1)
        subst he
        simp only [h1, if_false]
        rw [ih]
        simp [List.cons_lt_cons_iff, UInt8.lt_irrefl]
theorem swo_key {α : Type} (key : α → List UInt8) : SWO fun i j => ltStr (key i) (key j) where
  irrefl x := Go.Sort.swo_ltStr.irrefl _
  trans x y z h1 h2 := Go.Sort.swo_ltStr.trans _ _ _ h1 h2
  ntrans x y z h1 h2 := Go.Sort.swo_ltStr.ntrans _ _ _ h1 h2

/-- A list in the order of numbers. -/
def pick {α : Type} [Inhabited α] (xs : List α) (d : Array Nat) : List α := d.toList.map fun i => xs.getD i default
theorem pick_length {α : Type} [Inhabited α] (xs : List α) (d : Array Nat) : (pick xs d).length = d.size := by simp [pick]
theorem pick_get {α : Type} [Inhabited α] (xs : List α) (d : Array Nat) (j : Nat) (hj : j < d.size) : (pick xs d)[j]? = some (xs.getD d[j]! default) := by
  simp [pick, hj, getElem!_pos d j hj]
theorem pick_range {α : Type} [Inhabited α] (xs : List α) : pick xs (Array.range xs.length) = xs := by
  apply List.ext_getElem?
  intro j
  by_cases hj : j < xs.length
  · rw [pick_get _ _ _ (by simpa using hj), St.get_range hj, List.getElem?_eq_getElem hj]
    simp [List.getD, hj]
  · rw [List.getElem?_eq_none (by rw [pick_length]; simp; omega), List.getElem?_eq_none (by omega)]
theorem stab_lt {lt : Nat → Nat → Bool} (h : SWO lt) {n j : Nat} (hj : j < n) : (stab lt n)[j]! < n :=
  Go.Sort.permIn_all (Array.range n) (stab lt n) 0 n (fun v => v < n) (by simp) (St.stab_perm h n) (fun i _ hi => by rw [St.get_range hi]; exact hi) j (Nat.zero_le _) hj
theorem pick_perm {α : Type} [Inhabited α] {lt : Nat → Nat → Bool} (h : SWO lt) (xs : List α) : (pick xs (stab lt xs.length)).Perm xs := by
  have h1 := (St.stab_perm h xs.length).2.2
  have e1 : (Array.range xs.length).extract 0 xs.length = Array.range xs.length := by simp
  have e2 : (stab lt xs.length).extract 0 xs.length = stab lt xs.length := by
    have : (stab lt xs.length).extract 0 (stab lt xs.length).size = stab lt xs.length := Array.extract_size
    rwa [St.stab_size h] at this
  rw [e1, e2] at h1
  have h2 := h1.map fun i => xs.getD i default
  have h3 : pick xs (Array.range xs.length) = xs := pick_range xs
  unfold pick at h3 ⊢
  rwa [h3] at h2

theorem pick_map {α β : Type} [Inhabited α] [Inhabited β] (f : α → β) (xs : List α) (d : Array Nat) (h : ∀ j, j < d.size → d[j]! < xs.length) : pick (xs.map f) d = (pick xs d).map f := by
  apply List.ext_getElem?
  intro j
  by_cases hj : j < d.size
  · rw [List.getElem?_map, pick_get _ _ _ hj, pick_get _ _ _ hj]
    have := h j hj
    simp [List.getD, this]
  · rw [List.getElem?_eq_none (by rw [pick_length]; omega), List.getElem?_eq_none (by rw [List.length_map, pick_length]; omega)]
theorem pick_swp {α : Type} [Inhabited α] (xs : List α) (d : Array Nat) (i j : Nat) (hi : i < d.size) (hj : j < d.size) :
    pick xs (Go.Sort.swp d i j) = ((pick xs d).set i (xs.getD d[j]! default)).set j (xs.getD d[i]! default) := by
  apply List.ext_getElem?
  intro k
  have hs : (Go.Sort.swp d i j).size = d.size := Go.Sort.size_swp d i j
  by_cases hk : k < d.size
  · rw [pick_get _ _ _ (by rw [hs]; exact hk), List.getElem?_set, List.getElem?_set]
    simp only [List.length_set, pick_length]
    by_cases e1 : j = k
    · subst e1
      rw [if_pos rfl, if_pos hj, Go.Sort.swp_right _ _ _ hj]
    · rw [if_neg e1]
      by_cases e2 : i = k
      · subst e2
        rw [if_pos rfl, if_pos hi, Go.Sort.swp_left _ _ _ hi (fun e => e1 e.symm)]
      · rw [if_neg e2, pick_get _ _ _ hk, Go.Sort.swp_other _ _ _ _ (fun e => e2 e.symm) (fun e => e1 e.symm)]
  · rw [List.getElem?_eq_none (by rw [pick_length, hs]; omega), List.getElem?_eq_none (by rw [List.length_set, List.length_set, pick_length]; omega)]

/-- An order by keys; the list in that order, those of one key as they come. -/
def keyAt {α : Type} [Inhabited α] (k : α → List UInt8) (xs : List α) (i : Nat) : List UInt8 := k (xs.getD (min i (xs.length - 1)) default)
def ltK {α : Type} [Inhabited α] (k : α → List UInt8) (xs : List α) (i j : Nat) : Bool := ltStr (keyAt k xs i) (keyAt k xs j)
theorem swo_ltK {α : Type} [Inhabited α] (k : α → List UInt8) (xs : List α) : SWO (ltK k xs) := swo_key (keyAt k xs)
def cfK {α : Type} [Inhabited α] (k : α → List UInt8) (xs : List α) (i j : Nat) : Int := Lib.compareBytes (keyAt k xs i) (keyAt k xs j)
theorem ltOf_cfK {α : Type} [Inhabited α] (k : α → List UInt8) (xs : List α) : ltOf (cfK k xs) = ltK k xs := by
  funext i j
  exact ltC _ _
def sortK {α : Type} [Inhabited α] (k : α → List UInt8) (xs : List α) : List α := pick xs (stab (ltK k xs) xs.length)
theorem sortK_length {α : Type} [Inhabited α] (k : α → List UInt8) (xs : List α) : (sortK k xs).length = xs.length := by rw [sortK, pick_length, St.stab_size (swo_ltK k xs)]
theorem sortK_perm {α : Type} [Inhabited α] (k : α → List UInt8) (xs : List α) : (sortK k xs).Perm xs := pick_perm (swo_ltK k xs) xs
theorem sortK_get {α : Type} [Inhabited α] (k : α → List UInt8) (xs : List α) (j : Nat) (hj : j < xs.length) : (sortK k xs)[j]? = some (xs.getD (stab (ltK k xs) xs.length)[j]! default) :=
  pick_get xs _ j (by rw [St.stab_size (swo_ltK k xs)]; exact hj)
theorem keyAt_lt {α : Type} [Inhabited α] (k : α → List UInt8) (xs : List α) {i : Nat} (h : i < xs.length) : keyAt k xs i = k xs[i] := by
  unfold keyAt
  rw [Nat.min_eq_left (by omega)]
  simp [List.getD, h]
theorem sortK_asc {α : Type} [Inhabited α] (k : α → List UInt8) (xs : List α) : ∀ i j (hi : i < (sortK k xs).length) (hj : j < (sortK k xs).length), i < j → ¬ k (sortK k xs)[j] < k (sortK k xs)[i] := by
  intro i j hi hj hij
  have hl := sortK_length k xs
  have h := St.stab_sorted (swo_ltK k xs) xs.length i j (Nat.zero_le _) hij (by omega)
  have e : ∀ q (hq : q < (sortK k xs).length), k (sortK k xs)[q] = keyAt k xs (stab (ltK k xs) xs.length)[q]! := fun q hq => by
    have l1 := stab_lt (swo_ltK k xs) (show q < xs.length by omega)
    have := sortK_get k xs q (by omega)
    rw [List.getElem?_eq_getElem hq] at this
    rw [Option.some.inj this, keyAt_lt k xs l1]
    simp [List.getD, l1]
  rw [e i hi, e j hj]
  replace h : ltStr (keyAt k xs _) (keyAt k xs _) = false := h
  unfold ltStr at h
  exact of_decide_eq_false h
theorem sortK_map {α β : Type} [Inhabited α] [Inhabited β] (f : α → β) (k : β → List UInt8) (k' : α → List UInt8) (xs : List α) (hk : ∀ x ∈ xs, k (f x) = k' x) : sortK k (xs.map f) = (sortK k' xs).map f := by
  rcases Nat.eq_zero_or_pos xs.length with h0 | h0
  · obtain rfl := List.length_eq_zero_iff.1 h0
    rw [List.length_eq_zero_iff.1 (show (sortK k (List.map f [])).length = 0 by rw [sortK_length]; rfl), List.length_eq_zero_iff.1 (show (sortK k' ([] : List α)).length = 0 by rw [sortK_length]; rfl)]
    rfl
  have hlt : ltK k (xs.map f) = ltK k' xs := by
    funext i j
    have e : ∀ i, keyAt k (xs.map f) i = keyAt k' xs i := fun i => by
      unfold keyAt
      have hi : min i (xs.length - 1) < xs.length := by omega
      rw [List.length_map]
      simp only [List.getD, List.getElem?_map, List.getElem?_eq_getElem hi, Option.map_some, Option.getD_some]
      exact hk _ (List.getElem_mem _)
    unfold ltK
    rw [e, e]
  unfold sortK
  rw [hlt, List.length_map]
  exact pick_map f xs _ (fun j hj => stab_lt (swo_ltK k' xs) (by rwa [St.stab_size (swo_ltK k' xs)] at hj))

/-! Entries of unknown words, and classes. -/
abbrev Un : Type := Int × Int × Int × Int × List ByteArray
def kUn : Kd Un := Kd.pair (Kd.int .i64) (Kd.pair (Kd.int .i64) (Kd.pair (Kd.int .i64) (Kd.pair (Kd.int .i64) (Kd.slice 9 Kd.string))))
abbrev Cls : Type := ByteArray × Bool × Bool
def kCls : Kd Cls := Kd.pair Kd.string (Kd.pair Kd.bool Kd.bool)
theorem uns_at {w : World} {A : Option Addr} {n : Nat} {xs : List Un} (h : kUn.C w A n xs) : ∀ j (hj : j < xs.length), ∃ ad A1 c1, A = some ad ∧
    w.cell? (ad.add (j * 5)) = some (.int .i64 xs[j].1) ∧ w.cell? ⟨(ad.add (j * 5)).block, (ad.add (j * 5)).off + 1, none⟩ = some (.int .i64 xs[j].2.1) ∧
    w.cell? ⟨(ad.add (j * 5)).block, (ad.add (j * 5)).off + 2, none⟩ = some (.int .i64 xs[j].2.2.1) ∧ w.cell? ⟨(ad.add (j * 5)).block, (ad.add (j * 5)).off + 3, none⟩ = some (.int .i64 xs[j].2.2.2.1) ∧
    w.cell? ⟨(ad.add (j * 5)).block, (ad.add (j * 5)).off + 4, none⟩ = some (.slice A1 xs[j].2.2.2.2.length c1) ∧ Kd.string.C w A1 xs[j].2.2.2.2.length xs[j].2.2.2.2 ∧ xs[j].2.2.2.2.length ≤ c1 := by
  intro j hj
  obtain ⟨ad, hA, hc⟩ := h.2.2 (by have := h.1; omega)
  obtain ⟨c, hl, hk, hcell⟩ := hc j xs[j] (List.getElem?_eq_getElem hj)
  obtain ⟨_, _, rfl, rfl, _, _, rfl, rfl, _, _, rfl, rfl, _, _, rfl, rfl, A1, c1, rfl, h1, hC1⟩ := hk
  have e : kUn.sz = 5 := rfl
  rw [e] at hcell
  have h0 := hcell 0 _ rfl
  have h1' := hcell 1 _ rfl
  have h2' := hcell 2 _ rfl
  have h3' := hcell 3 _ rfl
  have h4' := hcell 4 _ rfl
  rw [Nat.add_zero] at h0
  rw [add_field _ _ _ (by decide)] at h1' h2' h3' h4'
  exact ⟨ad, A1, c1, hA, h0, h1', h2', h3', h4', hC1, h1⟩
theorem cls_at {w : World} {A : Option Addr} {n : Nat} {xs : List Cls} (h : kCls.C w A n xs) : ∀ j (hj : j < xs.length), ∃ ad, A = some ad ∧
    w.cell? (ad.add (j * 3)) = some (.string xs[j].1) ∧ w.cell? ⟨(ad.add (j * 3)).block, (ad.add (j * 3)).off + 1, none⟩ = some (.bool xs[j].2.1) ∧
    w.cell? ⟨(ad.add (j * 3)).block, (ad.add (j * 3)).off + 2, none⟩ = some (.bool xs[j].2.2) := by
  intro j hj
  obtain ⟨ad, hA, hc⟩ := h.2.2 (by have := h.1; omega)
  obtain ⟨c, hl, hk, hcell⟩ := hc j xs[j] (List.getElem?_eq_getElem hj)
  obtain ⟨_, _, rfl, rfl, _, _, rfl, rfl, rfl⟩ := hk
  have e : kCls.sz = 3 := rfl
  rw [e] at hcell
  have h0 := hcell 0 _ rfl
  have h1' := hcell 1 _ rfl
  have h2' := hcell 2 _ rfl
  rw [Nat.add_zero] at h0
  rw [add_field _ _ _ (by decide)] at h1' h2'
  exact ⟨ad, hA, h0, h1', h2'⟩
theorem to_pairsU {w : World} {A : Option Addr} {n : Nat} {xs : List Un} (h : kUn.C w A n xs) : ∃ ps : List (Un × ChU), ps.map (·.1) = xs ∧ kChU.C w A n (ps.map (·.2)) ∧ ∀ p ∈ ps, kUn.K w p.1 (encU p.2) := by
  have key : ∀ j : Fin xs.length, ∃ x : ChU, kUn.K w xs[j] (encU x) ∧ ∀ ad, A = some ad → ∀ i u, (encU x)[i]? = some u → w.cell? (ad.add (j.1 * kChU.sz + i)) = some u := by
    intro ⟨j, hj⟩
    obtain ⟨ad, hA, hc⟩ := h.2.2 (by have := h.1; omega)
    obtain ⟨c, hl, hk, hcell⟩ := hc j xs[j] (List.getElem?_eq_getElem hj)
    have hk' := hk
    obtain ⟨_, _, rfl, rfl, _, _, rfl, rfl, _, _, rfl, rfl, _, _, rfl, rfl, A1, c1, rfl, h1, hC1⟩ := hk
    refine ⟨(xs[j].1, xs[j].2.1, xs[j].2.2.1, xs[j].2.2.2.1, (A1, xs[j].2.2.2.2.length, c1)), hk', fun ad' h' => ?_⟩
    rw [hA] at h'
    cases h'
    exact hcell
  refine ⟨List.ofFn fun j : Fin xs.length => (xs[j], (key j).choose), ?_, ?_, ?_⟩
  · apply List.ext_getElem
    · simp
    · intro i h1 h2
      simp
  · refine ⟨by simp [h.1], h.2.1, fun hp => ?_⟩
    obtain ⟨ad, hA, _⟩ := h.2.2 hp
    refine ⟨ad, hA, fun j p hj => ⟨encU p, rfl, rfl, ?_⟩⟩
    rw [List.getElem?_map, Option.map_eq_some_iff] at hj
    obtain ⟨q, hq, rfl⟩ := hj
    have hjl : j < xs.length := by
      have := (List.getElem?_eq_some_iff.1 hq).1
      simpa using this
    rw [List.getElem?_ofFn, dif_pos hjl] at hq
    cases hq
    exact (key ⟨j, hjl⟩).choose_spec.2 ad hA
  · intro p hp
    rw [List.mem_ofFn] at hp
    obtain ⟨j, rfl⟩ := hp
    exact (key j).choose_spec.1
theorem of_pairsU {e base : Nat} {ok : Nat → Prop} {w : World} {v : Value} {ps : List (Un × ChU)} (h : kChU.R e w base ok v (ps.map (·.2))) (hk : ∀ p ∈ ps, kUn.K w p.1 (encU p.2)) :
    ∃ A c, v = .slice A ps.length c ∧ ps.length ≤ c ∧ kUn.C w A ps.length (ps.map (·.1)) := by
  obtain ⟨A, c, rfl, hl, hC⟩ := Kd.R_reads h
  rw [List.length_map] at hl hC ⊢
  refine ⟨A, c, rfl, hl, by simp, hC.2.1, fun hp => ?_⟩
  obtain ⟨ad, hA, hc⟩ := hC.2.2 hp
  refine ⟨ad, hA, fun j p hj => ?_⟩
  rw [List.getElem?_map, Option.map_eq_some_iff] at hj
  obtain ⟨q, hq, rfl⟩ := hj
  obtain ⟨c, hcl, hck, hcell⟩ := hc j q.2 (by rw [List.getElem?_map, hq]; rfl)
  have : c = encU q.2 := hck
  subst this
  exact ⟨_, rfl, hk q (List.mem_of_getElem? hq), hcell⟩
theorem un_key {w : World} {u : Un} {x : ChU} (h : kUn.K w u (encU x)) : u.1 = x.1 := by
  obtain ⟨c1, c2, e, h1, _⟩ := h
  have h1' : c1 = [.int .i64 u.1] := h1
  rw [h1'] at e
  unfold encU at e
  rw [List.singleton_append] at e
  have := (List.cons.inj e).1
  injection this with _ h
  exact h.symm
end Go.Proofs.YteoljiclmhmbnaaDoor.Tx

/-
  The walks of the laws' small functions that only look: zzFits3, zzFits6, few, smallLists.
-/
set_option linter.unusedVariables false
set_option linter.unusedSimpArgs false
namespace Go.Proofs.YteoljiclmhmbnaaDoor.K
open Go.RowKit Go.Proofs.YteoljiclmhmbnaaDoorW.PrintWords

/-- Some bool is returned; where it is true, p. -/
def BoolIf (p : Prop) (w : World) (e : Ending) (w' : World) : Prop := ∃ b : Bool, e = .returned (.bool b) ∧ (b = true → p) ∧ Below w.heap.size w w'

def fits3 (xs : List ByteArray) : Prop := xs.length ≤ 2147483647 ∧ ∀ x ∈ xs, x.size ≤ 2147483647
def fits6 (xs : List (List ByteArray)) : Prop := xs.length ≤ 2147483647 ∧ ∀ x ∈ xs, fits3 x

theorem all_take {α : Type} {p : α → Prop} {xs : List α} {k : Nat} (hk : k < xs.length) (h : ∀ x ∈ xs.take k, p x) (hx : p xs[k]) : ∀ x ∈ xs.take (k + 1), p x := by
  intro x hm
  rw [List.take_succ_eq_append_getElem hk] at hm
  rcases List.mem_append.1 hm with hm | hm
  · exact h x hm
  · rw [List.mem_singleton] at hm; subst hm; exact hx

set_option maxHeartbeats 400000 in
theorem zzFits3_any (A : Option Addr) (c : Nat) (xs : List ByteArray) (w : World) (hC : Kd.string.C w A xs.length xs) :
    Calls Tryd.prog 59 #[.slice A xs.length c] w (BoolIf (fits3 xs) w) := by
  have hm := hC.2.1
  have HC := Lib.hid hC
  clear hC
  go_enter Tryd.func59, Tryd.ntmps59
  by_cases hbig : 2147483647 < xs.length
  · go_wp2
    go_ret
    exact ⟨false, rfl, by simp, Below.refl _ _⟩
  go_wp2
  go_loopw [10] (fun i wr => ∃ k : Nat, k ≤ xs.length ∧ i = .int .i64 k ∧ Hid (∀ x ∈ xs.take k, x.size ≤ 2147483647) ∧ Below w.heap.size w wr) (fun i _ => xs.length - (intOf i).toNat)
  case atStart => exact ⟨0, Nat.zero_le _, rfl, Lib.hid (by simp), Below.refl _ _⟩
  case round =>
    obtain ⟨k, hk, rfl, hall, hbel⟩ := hrel
    by_cases hlt : k < xs.length
    · obtain ⟨ad, rfl, hs⟩ := strs_at HC.out k hlt
      have hs' := (hbel.cell (World.block_lt_of_cell? w _ hs)).trans hs
      clear hs
      by_cases hx : 2147483647 < xs[k].size
      · go_wp2
        go_ret
        exact ⟨false, rfl, by simp, hbel⟩
      · have HX := Lib.hid (Nat.le_of_not_lt hx)
        go_wp2
        refine ⟨⟨k + 1, by omega, by go_num, Lib.hid (all_take hlt hall.out HX.out), hbel⟩, by simp [intOf]; omega⟩
    · go_wp2
      go_ret
      obtain rfl : k = xs.length := by omega
      have := hall.out
      rw [List.take_length] at this
      exact ⟨true, rfl, fun _ => ⟨by omega, this⟩, hbel⟩

set_option maxHeartbeats 400000 in
theorem few_any (A : Option Addr) (c : Nat) (xs : List (List ByteArray)) (w : World) (hC : (Kd.slice 9 Kd.string).C w A xs.length xs) :
    Calls Tryd.prog 38 #[.slice A xs.length c] w (BoolIf True w) := by
  have hm := hC.2.1
  have HC := Lib.hid hC
  clear hC
  go_enter Tryd.func38, Tryd.ntmps38
  go_wp2
  go_loopw [3, 8] (fun n i wr => ∃ k : Nat, k ≤ xs.length ∧ i = .int .i64 k ∧ (∃ x, n = .int .i64 x) ∧ Below w.heap.size w wr) (fun _ i _ => xs.length - (intOf i).toNat)
  case atStart => exact ⟨0, Nat.zero_le _, rfl, ⟨_, rfl⟩, Below.refl _ _⟩
  case round =>
    obtain ⟨k, hk, rfl, ⟨x, rfl⟩, hbel⟩ := hrel
    by_cases hlt : k < xs.length
    · obtain ⟨ad, A', c', rfl, hs, hl', hC'⟩ := rows_at HC.out k hlt
      have hs' := (hbel.cell (World.block_lt_of_cell? w _ hs)).trans hs
      have HS := Lib.hid hs
      have HC' := Lib.hid hC'
      have hm' := hC'.2.1
      have HL := Lib.hid hbel
      clear hs hl' hC' hbel
      go_wp2
      obtain ⟨wo, hwo⟩ : ∃ wo : World, wo = wr := ⟨_, rfl⟩
      subst hwo
      go_loopw [3, 16] (fun n i wi => ∃ j : Nat, j ≤ xs[k].length ∧ i = .int .i64 j ∧ (∃ x, n = .int .i64 x) ∧ Below w.heap.size w wi) (fun _ i _ => xs[k].length - (intOf i).toNat)
      case atStart => exact ⟨0, Nat.zero_le _, rfl, ⟨_, rfl⟩, HL.out⟩
      case round =>
        obtain ⟨j, hj, rfl, ⟨y, rfl⟩, hbel⟩ := hrel
        by_cases hjl : j < xs[k].length
        · obtain ⟨ad2, rfl, hs2⟩ := strs_at HC'.out j hjl
          have h1 := (hbel.cell (World.block_lt_of_cell? w _ hs2)).trans hs2
          have h2 := (hbel.cell (World.block_lt_of_cell? w _ HS.out)).trans HS.out
          clear hs' hs2
          go_wp2
          refine ⟨⟨j + 1, by omega, by go_num, ⟨_, rfl⟩, hbel⟩, by simp [intOf]; omega⟩
        · clear hs'
          go_wp2
          refine ⟨⟨k + 1, by omega, by go_num, ⟨_, rfl⟩, hbel⟩, by simp [intOf]; omega⟩
    · go_wp2
      go_ret
      exact ⟨_, rfl, fun _ => trivial, hbel⟩

end Go.Proofs.YteoljiclmhmbnaaDoor.K

/-
  The walks of the laws' small functions that only look, for unknown words: zzFits2, zzFits1, zzFits5, zzFits4.
-/
set_option linter.unusedVariables false
set_option linter.unusedSimpArgs false
namespace Go.Proofs.YteoljiclmhmbnaaDoor.Tx
open Go.RowKit Go.Proofs.YteoljiclmhmbnaaDoorW.PrintWords Go.Proofs.YteoljiclmhmbnaaDoor.K

def fitU (u : Un) : Prop := fits3 u.2.2.2.2
def fitC (c : Cls) : Prop := c.1.size ≤ 2147483647
set_option maxHeartbeats 400000 in
theorem zzFits2_any (u : Un) (A1 : Option Addr) (c1 : Nat) (w : World) (h1 : Kd.string.C w A1 u.2.2.2.2.length u.2.2.2.2) :
    Calls Tryd.prog 49 #[.agg #[.int .i64 u.1, .int .i64 u.2.1, .int .i64 u.2.2.1, .int .i64 u.2.2.2.1, .slice A1 u.2.2.2.2.length c1]] w (BoolIf (fitU u) w) := by
  obtain ⟨a, l, r, s, xs⟩ := u
  have H1 := Lib.hid h1
  clear h1
  go_enter Tryd.func49, Tryd.ntmps49
  go_wp2_with fail
  refine (zzFits3_any A1 c1 xs _ (Kd.C_alloc H1.out _)).mono ?_
  rintro e w1 ⟨b, rfl, hb, hw1⟩
  have HB := Lib.hid hb
  have HL := Lib.hid (((Below.refl _ w).alloc (Nat.le_refl _) _).trans (hw1.mono (by simp)))
  clear hb hw1
  cases b
  · go_wp2
    go_ret
    exact ⟨false, rfl, by simp, HL.out⟩
  · go_wp2
    go_ret
    exact ⟨true, rfl, fun _ => HB.out trivial, HL.out⟩
set_option maxHeartbeats 400000 in
theorem zzFits5_any (x : Cls) (w : World) :
    Calls Tryd.prog 43 #[.agg #[.string x.1, .bool x.2.1, .bool x.2.2]] w (BoolIf (fitC x) w) := by
  obtain ⟨a, p, q⟩ := x
  go_enter Tryd.func43, Tryd.ntmps43
  by_cases ha : 2147483647 < a.size
  · go_wp2
    go_ret
    exact ⟨false, rfl, by simp, (Below.refl _ _).alloc (Nat.le_refl _) _⟩
  · go_wp2
    go_ret
    exact ⟨true, rfl, fun _ => Nat.le_of_not_lt ha, (Below.refl _ _).alloc (Nat.le_refl _) _⟩
set_option maxHeartbeats 800000 in
theorem zzFits1_any (A : Option Addr) (c : Nat) (xs : List Un) (w : World) (hC : kUn.C w A xs.length xs) :
    Calls Tryd.prog 27 #[.slice A xs.length c] w (BoolIf (xs.length ≤ 2147483647 ∧ ∀ u ∈ xs, fitU u) w) := by
  have hm := hC.2.1
  have HC := Lib.hid hC
  clear hC
  go_enter Tryd.func27, Tryd.ntmps27
  by_cases hbig : 2147483647 < xs.length
  · go_wp2
    go_ret
    exact ⟨false, rfl, by simp, Below.refl _ _⟩
  go_wp2
  go_loopw [10] (fun i wr => ∃ k : Nat, k ≤ xs.length ∧ i = .int .i64 k ∧ Hid (∀ x ∈ xs.take k, fitU x) ∧ Below w.heap.size w wr) (fun i _ => xs.length - (intOf i).toNat)
  case atStart => exact ⟨0, Nat.zero_le _, rfl, Lib.hid (by simp), Below.refl _ _⟩
  case round =>
    obtain ⟨k, hk, rfl, hall, hbel⟩ := hrel
    by_cases hlt : k < xs.length
    · obtain ⟨ad, A1, c1, rfl, s0, s1, s2, s3, s4, hC1, _⟩ := uns_at (Kd.C_below HC.out hbel) k hlt
      have HC1 := Lib.hid hC1
      have hsz := hbel.size
      clear hC1
      have HX := Lib.hid (fun h => all_take hlt hall.out h)
      generalize xs[k] = u at *
      obtain ⟨a, l, r, s, ys⟩ := u
      go_wp2_with fail
      refine (zzFits2_any (a, l, r, s, ys) A1 c1 _ (Kd.C_alloc HC1.out _)).mono ?_
      rintro e w1 ⟨b, rfl, hb, hw1⟩
      have HB := Lib.hid hb
      have HL := Lib.hid ((hbel.alloc hsz _).trans (hw1.mono (by simp; omega)))
      clear s0 s1 s2 s3 s4 hb hw1 hbel
      cases b
      · go_wp2
        go_ret
        exact ⟨false, rfl, by simp, HL.out⟩
      · go_wp2
        refine ⟨⟨k + 1, by omega, by go_num, Lib.hid (HX.out (HB.out trivial)), HL.out⟩, by simp [intOf]; omega⟩
    · go_wp2
      go_ret
      obtain rfl : k = xs.length := by omega
      have := hall.out
      rw [List.take_length] at this
      exact ⟨true, rfl, fun _ => ⟨by omega, this⟩, hbel⟩
set_option maxHeartbeats 800000 in
theorem zzFits4_any (A : Option Addr) (c : Nat) (xs : List Cls) (w : World) (hC : kCls.C w A xs.length xs) :
    Calls Tryd.prog 16 #[.slice A xs.length c] w (BoolIf (xs.length ≤ 2147483647 ∧ ∀ u ∈ xs, fitC u) w) := by
  have hm := hC.2.1
  have HC := Lib.hid hC
  clear hC
  go_enter Tryd.func16, Tryd.ntmps16
  by_cases hbig : 2147483647 < xs.length
  · go_wp2
    go_ret
    exact ⟨false, rfl, by simp, Below.refl _ _⟩
  go_wp2
  go_loopw [10] (fun i wr => ∃ k : Nat, k ≤ xs.length ∧ i = .int .i64 k ∧ Hid (∀ x ∈ xs.take k, fitC x) ∧ Below w.heap.size w wr) (fun i _ => xs.length - (intOf i).toNat)
  case atStart => exact ⟨0, Nat.zero_le _, rfl, Lib.hid (by simp), Below.refl _ _⟩
  case round =>
    obtain ⟨k, hk, rfl, hall, hbel⟩ := hrel
    by_cases hlt : k < xs.length
    · obtain ⟨ad, rfl, s0, s1, s2⟩ := cls_at (Kd.C_below HC.out hbel) k hlt
      have hsz := hbel.size
      have HX := Lib.hid (fun h => all_take hlt hall.out h)
      generalize xs[k] = u at *
      obtain ⟨a, p, q⟩ := u
      go_wp2_with fail
      refine (zzFits5_any (a, p, q) _).mono ?_
      rintro e w1 ⟨b, rfl, hb, hw1⟩
      have HB := Lib.hid hb
      have HL := Lib.hid ((hbel.alloc hsz _).trans (hw1.mono (by simp; omega)))
      clear s0 s1 s2 hb hw1 hbel
      cases b
      · go_wp2
        go_ret
        exact ⟨false, rfl, by simp, HL.out⟩
      · go_wp2
        refine ⟨⟨k + 1, by omega, by go_num, Lib.hid (HX.out (HB.out trivial)), HL.out⟩, by simp [intOf]; omega⟩
    · go_wp2
      go_ret
      obtain rfl : k = xs.length := by omega
      have := hall.out
      rw [List.take_length] at this
      exact ⟨true, rfl, fun _ => ⟨by omega, this⟩, hbel⟩
end Go.Proofs.YteoljiclmhmbnaaDoor.Tx

/-
  The walk of laws.has[string].
-/
set_option linter.unusedVariables false
set_option linter.unusedSimpArgs false
namespace Go.Proofs.YteoljiclmhmbnaaDoor.K
open Go.RowKit Go.Proofs.YteoljiclmhmbnaaDoorW.PrintWords

theorem atHasStr {w : World} {A : Option Addr} {n : Nat} {xs : List ByteArray} (h : (Kd.string).C w A n xs) : ∀ j (hj : j < xs.length), ∃ ad, A = some ad ∧ w.cell? (ad.add j) = some (Value.string xs[j]) := by
  intro j hj
  obtain ⟨ad, hA, hc⟩ := h.2.2 (by have := h.1; omega)
  obtain ⟨c, hl, hk, hcell⟩ := hc j xs[j] (List.getElem?_eq_getElem hj)
  have hk' : c = [Value.string xs[j]] := hk
  subst hk'
  have := hcell 0 _ rfl
  have e : (Kd.string).sz = 1 := rfl
  rw [e, Nat.mul_one, Nat.add_zero] at this
  exact ⟨ad, hA, this⟩

set_option maxHeartbeats 400000 in
theorem hasStr_any (A : Option Addr) (c : Nat) (xs : List ByteArray) (x : ByteArray) (w : World) (hC : (Kd.string).C w A xs.length xs) :
    Calls Tryd.prog 25 #[.slice A xs.length c, .string x] w fun e w' => e = .returned (.bool (memB x xs)) ∧ Below w.heap.size w w' := by
  have hm := hC.2.1
  have HC := Lib.hid hC
  clear hC
  go_enter Tryd.func25, Tryd.ntmps25
  go_wp2
  go_loopw [8] (fun i wr => ∃ k : Nat, k ≤ xs.length ∧ i = .int .i64 k ∧ Hid (x ∉ xs.take k) ∧ Below w.heap.size w wr) (fun i _ => xs.length - (intOf i).toNat)
  case atStart => exact ⟨0, Nat.zero_le _, rfl, Lib.hid (by simp), Below.refl _ _⟩
  case round =>
    obtain ⟨k, hk, rfl, hall, hbel⟩ := hrel
    by_cases hlt : k < xs.length
    · obtain ⟨ad, rfl, hs⟩ := atHasStr HC.out k hlt
      have hs' := (hbel.cell (World.block_lt_of_cell? w _ hs)).trans hs
      clear hs
      by_cases hx : xs[k] = x
      · have ht : (xs[k].toList == x.toList) = true := by rw [beq_iff_eq, hx]
        have HM := Lib.hid (show x ∈ xs by rw [← hx]; exact List.getElem_mem hlt)
        clear hx
        go_wp2
        go_ret
        exact ⟨by rw [memB_true HM.out]; rfl, hbel⟩
      · have ht : (xs[k].toList == x.toList) = false := by rw [beq_eq_false_iff_ne]; exact fun e => hx (ba_toList e)
        have HX := Lib.hid hx
        clear hx
        go_wp2
        refine ⟨⟨k + 1, by omega, by go_num, Lib.hid ?_, hbel⟩, by simp [intOf]; omega⟩
        rw [List.take_succ_eq_append_getElem hlt]
        intro hm
        rcases List.mem_append.1 hm with hm | hm
        · exact hall.out hm
        · exact HX.out (List.mem_singleton.1 hm).symm
    · go_wp2
      go_ret
      obtain rfl : k = xs.length := by omega
      have := hall.out
      rw [List.take_length] at this
      exact ⟨by rw [memB_false this]; rfl, hbel⟩
end Go.Proofs.YteoljiclmhmbnaaDoor.K

/-
  The walks of the laws' small functions that only look, for classes: within and clean (they come back), names.
-/
set_option linter.unusedVariables false
set_option linter.unusedSimpArgs false
namespace Go.Proofs.YteoljiclmhmbnaaDoor.Tx
open Go.RowKit Go.Proofs.YteoljiclmhmbnaaDoorW.PrintWords Go.Proofs.YteoljiclmhmbnaaDoor.K

set_option maxHeartbeats 400000 in
theorem within_b (s : ByteArray) (w : World) (hb : s.size ≤ 2147483647) :
    Calls Tryd.prog 73 #[.string s, .int .u8 0] w fun e w' => ∃ b : Bool, e = .returned (.bool b) ∧ w' = w := by
  go_enter Tryd.func73, Tryd.ntmps73
  go_wp2
  go_loopw [8] (fun i wr => ∃ k : Nat, k ≤ s.size ∧ i = .int .i64 k ∧ w = wr) (fun i _ => s.size - (intOf i).toNat)
  case atStart => exact ⟨0, Nat.zero_le _, rfl, rfl⟩
  case round =>
    obtain ⟨k, hk, rfl, hw⟩ := hrel
    by_cases hlt : k < s.size
    · by_cases hz : s[k].toNat = 0
      · have hz' : ((s[k].toNat : Int) == 0) = true := by rw [beq_iff_eq]; omega
        clear hz
        go_wp2
        go_ret
        exact ⟨true, rfl, hw.symm⟩
      · have hz' : ((s[k].toNat : Int) == 0) = false := by rw [beq_eq_false_iff_ne]; omega
        clear hz
        go_wp2
        exact ⟨⟨k + 1, by omega, by go_num, hw⟩, by simp [intOf]; omega⟩
    · go_wp2
      go_ret
      exact ⟨false, rfl, hw.symm⟩
set_option maxHeartbeats 400000 in
theorem clean_b (A : Option Addr) (c : Nat) (xs : List ByteArray) (w : World) (hC : Kd.string.C w A xs.length xs) (hb : fits3 xs) :
    Calls Tryd.prog 50 #[.slice A xs.length c] w fun e w' => ∃ b : Bool, e = .returned (.bool b) ∧ w' = w := by
  have hm := hC.2.1
  have HC := Lib.hid hC
  have hbl := hb.1
  have HB := Lib.hid hb
  clear hC hb
  go_enter Tryd.func50, Tryd.ntmps50
  go_wp2
  go_loopw [6] (fun i wr => ∃ k : Nat, k ≤ xs.length ∧ i = .int .i64 k ∧ w = wr) (fun i _ => xs.length - (intOf i).toNat)
  case atStart => exact ⟨0, Nat.zero_le _, rfl, rfl⟩
  case round =>
    obtain ⟨k, hk, rfl, hw⟩ := hrel
    by_cases hlt : k < xs.length
    · obtain ⟨ad, rfl, hs⟩ := strs_at HC.out k hlt
      have hs' : wr.cell? (ad.add k) = some (.string xs[k]) := by rw [← hw]; exact hs
      have hsz := HB.out.2 _ (List.getElem_mem hlt)
      have HW := Lib.hid hw
      clear hs hw
      go_wp2_with fail
      refine (within_b xs[k] wr hsz).mono ?_
      rintro e w1 ⟨b, rfl, rfl⟩
      cases b
      · go_wp2
        exact ⟨⟨k + 1, by omega, by go_num, HW.out⟩, by simp [intOf]; omega⟩
      · go_wp2
        go_ret
        exact ⟨false, rfl, HW.out.symm⟩
    · go_wp2
      go_ret
      exact ⟨true, rfl, hw.symm⟩
/-- Classes with different names. -/
structure NamesOk (cs : List Cls) : Prop where
  nd : (cs.map (·.1)).Nodup
  ln : 1 ≤ cs.length ∧ cs.length ≤ 12
theorem names_step {cs : List Cls} {k : Nat} (hlt : k < cs.length) (h : ((cs.take k).map (·.1)).Nodup) (hn : cs[k].1 ∉ (cs.take k).map (·.1)) : ((cs.take (k + 1)).map (·.1)).Nodup := by
  rw [List.take_succ_eq_append_getElem hlt, List.map_append]
  rw [List.nodup_append]
  refine ⟨h, by simp, fun a ha b hb => ?_⟩
  rintro rfl
  obtain rfl := List.mem_singleton.1 hb
  exact hn ha
set_option maxHeartbeats 2000000 in
set_option maxRecDepth 5000 in
theorem names_any (A : Option Addr) (c : Nat) (cs : List Cls) (w : World) (hC : kCls.C w A cs.length cs) (hf : ∀ x ∈ cs, fitC x) (hl : cs.length ≤ 2147483647) :
    Calls Tryd.prog 17 #[.slice A cs.length c] w (BoolIf (NamesOk cs) w) := by
  have hm := hC.2.1
  have HC := Lib.hid hC
  have HF := Lib.hid hf
  clear hC hf
  go_enter Tryd.func17, Tryd.ntmps17
  go_wp2
  go_loopw [3, 10] (fun ov i wr => ∃ k : Nat, k ≤ cs.length ∧ i = .int .i64 k ∧ Hid (Kd.string.R 9 wr w.heap.size (fun _ => True) ov ((cs.take k).map (·.1))) ∧ Hid (((cs.take k).map (·.1)).Nodup) ∧ Hid (Below w.heap.size w wr)) (fun _ i _ => cs.length - (intOf i).toNat)
  case atStart => exact ⟨0, Nat.zero_le _, rfl, Lib.hid (Kd.R_nil _ _ _ _ _), Lib.hid (by simp), Lib.hid (Below.refl _ _)⟩
  case round =>
    obtain ⟨k, hk, rfl, HO, HN, hbel⟩ := hrel
    by_cases hlt : k < cs.length
    · obtain ⟨ad, rfl, s0, s1, s2⟩ := cls_at (Kd.C_below HC.out hbel.out) k hlt
      have hszr := hbel.out.size
      have hfz : fitC cs[k] := HF.out _ (List.getElem_mem hlt)
      unfold fitC at hfz
      have HST := Lib.hid (fun h => names_step hlt HN.out h)
      have HTK : Hid ((cs.take (k + 1)).map (·.1) = (cs.take k).map (·.1) ++ [cs[k].1]) := Lib.hid (by
        rw [List.take_succ_eq_append_getElem hlt, List.map_append]; rfl)
      have HKL : Hid (((cs.take k).map (·.1)).length = k) := Lib.hid (by simp; omega)
      generalize (cs.take k).map (·.1) = L at *
      generalize cs[k] = u at *
      obtain ⟨a, p, q⟩ := u
      obtain ⟨A3, c3, hv3, hl3, hC3⟩ := Kd.R_reads HO.out
      subst hv3
      have HC3 := Lib.hid hC3
      clear hC3
      go_wp2_with fail
      go_loopw [17] (fun i wi => ∃ j : Nat, j ≤ a.size ∧ i = .int .i64 j ∧ wi = wr.alloc (.cells #[.string a, .bool p, .bool q] 52)) (fun i _ => a.size - (intOf i).toNat)
      case atStart => exact ⟨0, Nat.zero_le _, rfl, rfl⟩
      case round =>
        obtain ⟨j, hj, rfl, rfl⟩ := hrel
        by_cases hjl : j < a.size
        · obtain ⟨x, hx⟩ : ∃ x : Int, x = (a[j].toNat : Int) := ⟨_, rfl⟩
          have HBR := Lib.hid (hbel.out.alloc hszr (.cells #[.string a, .bool p, .bool q] 52))
          have hx' := hx.symm
          clear hx
          by_cases h1 : x < 65
          · have h3 : x < 97 := by omega
            go_wp2
            go_ret
            exact ⟨false, rfl, by simp, HBR.out⟩
          · by_cases h2 : 90 < x
            · by_cases h3 : x < 97
              · go_wp2
                go_ret
                exact ⟨false, rfl, by simp, HBR.out⟩
              · by_cases h4 : 122 < x
                · go_wp2
                  go_ret
                  exact ⟨false, rfl, by simp, HBR.out⟩
                · go_wp2
                  exact ⟨⟨j + 1, by omega, by go_num, trivial⟩, by simp [intOf]; omega⟩
            · go_wp2
              exact ⟨⟨j + 1, by omega, by go_num, trivial⟩, by simp [intOf]; omega⟩
        · obtain ⟨B1, hB1⟩ : ∃ B1 : Bool, a.toList.isEmpty = B1 := ⟨_, rfl⟩
          have HBR := Lib.hid (hbel.out.alloc hszr (.cells #[.string a, .bool p, .bool q] 52))
          cases B1
          · by_cases h30 : 30 < a.size
            · go_wp2
              go_ret
              exact ⟨false, rfl, by simp, HBR.out⟩
            · go_wp2_with fail
              refine (hasStr_any A3 c3 L a _ (Kd.C_alloc HC3.out _)).mono ?_
              rintro e w1 ⟨rfl, hb1⟩
              have HB1 := Lib.hid (HBR.out.trans (hb1.mono HBR.out.size))
              have HR1 := Lib.hid (Kd.R_below (Kd.R_alloc HO.out (.cells #[.string a, .bool p, .bool q] 52)) hb1)
              have hq1 : w1.cell? ⟨wr.heap.size, 0, none⟩ = some (.string a) := (hb1.cell (by simp)).trans (cell_of_heap (heap_new wr _) 0)
              clear hb1
              by_cases hm1 : memB a L = true
              · rw [hm1]
                go_wp2
                go_ret
                exact ⟨false, rfl, by simp, HB1.out⟩
              · rw [eq_false_of_ne_true hm1]
                have HMB := Lib.hid (show a ∉ L from fun h => hm1 (memB_true h))
                clear hm1
                go_wp2_with (at_builtin; refine kapp (w0 := w) Kd.string w.heap.size rfl _ _ 29 9 (.string ⟨#[]⟩) 16 rfl Tryd.underlying29 (by kernel_rfl) rfl (by decide) (by decide) _ L a [.string a] (fun _ => True) (fun _ => False) _ rfl rfl ?hg rfl (fun _ h => h.elim) (fun _ _ => trivial) (Kd.R_alloc HR1.out _) (HB1.out.alloc HB1.out.size _) (by have := HB1.out.size; simp; omega) ?hl ?_)
                case hg =>
                  intro j u hj
                  rw [cell_of_heap (heap_new w1 _)]
                  simpa using hj
                case hl => rw [HKL.out]; omega
                intro v1 w4 hR4 hB4 hg4 hat4
                have HR4 := Lib.hid hR4
                have HB4 := Lib.hid hB4
                clear hg4 hat4 hR4 hB4
                go_wp2
                exact ⟨⟨k + 1, by omega, by go_num, Lib.hid (by rw [HTK.out]; exact HR4.out), Lib.hid (HST.out HMB.out), HB4⟩, by simp [intOf]; omega⟩
          · go_wp2
            go_ret
            exact ⟨false, rfl, by simp, HBR.out⟩
    · by_cases h1 : 1 ≤ cs.length
      · go_wp2
        go_ret
        obtain rfl : k = cs.length := by omega
        have hn := HN.out
        rw [List.take_length] at hn
        exact ⟨decide ((cs.length : Int) ≤ 12), rfl, fun h => ⟨hn, ⟨h1, by have := of_decide_eq_true h; omega⟩⟩, hbel.out⟩
      · go_wp2
        go_ret
        exact ⟨false, rfl, by simp, hbel.out⟩
end Go.Proofs.YteoljiclmhmbnaaDoor.Tx

/-
  The walk of laws.plainUnknown.
-/
set_option linter.unusedVariables false
set_option linter.unusedSimpArgs false
namespace Go.Proofs.YteoljiclmhmbnaaDoor.Tx
open Go.RowKit Go.Proofs.YteoljiclmhmbnaaDoorW.PrintWords Go.Proofs.YteoljiclmhmbnaaDoor.K

/-- Entries that can be written as records of n classes. -/
def PlainU (n : Nat) (us : List Un) : Prop := (∀ u ∈ us, (0 ≤ u.1 ∧ u.1 < n) ∧ (0 ≤ u.2.1 ∧ u.2.1 ≤ 1000) ∧ (0 ≤ u.2.2.1 ∧ u.2.2.1 ≤ 1000) ∧ (-30000 ≤ u.2.2.2.1 ∧ u.2.2.2.1 ≤ 30000) ∧ u.2.2.2.2.length = 2) ∧ 1 ≤ us.length ∧ us.length ≤ 30
set_option maxHeartbeats 4000000 in
set_option maxRecDepth 5000 in
theorem plainUnknown_any (A B : Option Addr) (c d : Nat) (xs : List Un) (n : Nat) (w : World) (hC : kUn.C w A xs.length xs) (hf : ∀ u ∈ xs, fitU u) :
    Calls Tryd.prog 28 #[.slice A xs.length c, .slice B n d] w (BoolIf (PlainU n xs) w) := by
  have hm := hC.2.1
  have HC := Lib.hid hC
  have HF := Lib.hid hf
  clear hC hf
  go_enter Tryd.func28, Tryd.ntmps28
  go_wp2
  go_loopw [9] (fun i wr => ∃ k : Nat, k ≤ xs.length ∧ i = .int .i64 k ∧ Hid (∀ u ∈ xs.take k, (0 ≤ u.1 ∧ u.1 < n) ∧ (0 ≤ u.2.1 ∧ u.2.1 ≤ 1000) ∧ (0 ≤ u.2.2.1 ∧ u.2.2.1 ≤ 1000) ∧ (-30000 ≤ u.2.2.2.1 ∧ u.2.2.2.1 ≤ 30000) ∧ u.2.2.2.2.length = 2) ∧ Hid (Below w.heap.size w wr)) (fun i _ => xs.length - (intOf i).toNat)
  case atStart => exact ⟨0, Nat.zero_le _, rfl, Lib.hid (by simp), Lib.hid (Below.refl _ _)⟩
  case round =>
    obtain ⟨k, hk, rfl, hall, hbel⟩ := hrel
    by_cases hlt : k < xs.length
    · obtain ⟨ad, A1, c1, rfl, s0, s1, s2, s3, s4, hC1, _⟩ := uns_at (Kd.C_below HC.out hbel.out) k hlt
      have HC1 := Lib.hid hC1
      have hsz := hbel.out.size
      clear hC1
      have HX := Lib.hid (fun h => all_take hlt hall.out h)
      have HFU := Lib.hid (HF.out _ (List.getElem_mem hlt))
      generalize xs[k] = u at *
      obtain ⟨a, l, r, s, ys⟩ := u
      have HBR := Lib.hid (hbel.out.alloc hsz (.cells #[.int .i64 a, .int .i64 l, .int .i64 r, .int .i64 s, .slice A1 ys.length c1] 60))
      by_cases h1 : a < 0
      · go_wp2
        go_ret
        exact ⟨false, rfl, by simp, HBR.out⟩
      by_cases h2 : (n : Int) ≤ a
      · go_wp2
        go_ret
        exact ⟨false, rfl, by simp, HBR.out⟩
      by_cases h3 : l < 0
      · go_wp2
        go_ret
        exact ⟨false, rfl, by simp, HBR.out⟩
      by_cases h4 : 1000 < l
      · go_wp2
        go_ret
        exact ⟨false, rfl, by simp, HBR.out⟩
      by_cases h5 : r < 0
      · go_wp2
        go_ret
        exact ⟨false, rfl, by simp, HBR.out⟩
      by_cases h6 : 1000 < r
      · go_wp2
        go_ret
        exact ⟨false, rfl, by simp, HBR.out⟩
      by_cases h7 : s < -30000
      · go_wp2
        go_ret
        exact ⟨false, rfl, by simp, HBR.out⟩
      by_cases h8 : 30000 < s
      · go_wp2
        go_ret
        exact ⟨false, rfl, by simp, HBR.out⟩
      by_cases h9 : ys.length = 2
      · have HOK := Lib.hid (show (0 ≤ a ∧ a < n) ∧ (0 ≤ l ∧ l ≤ 1000) ∧ (0 ≤ r ∧ r ≤ 1000) ∧ (-30000 ≤ s ∧ s ≤ 30000) ∧ ys.length = 2 from ⟨by omega, by omega, by omega, by omega, h9⟩)
        have HCL := Lib.hid (clean_b A1 c1 ys (wr.alloc (.cells #[.int .i64 a, .int .i64 l, .int .i64 r, .int .i64 s, .slice A1 ys.length c1] 60)) (Kd.C_alloc HC1.out _) HFU.out)
        rw [h9] at HCL HBR s4
        go_wp2_with fail
        refine HCL.out.mono ?_
        rintro e w1 ⟨b, rfl, rfl⟩
        cases b
        · go_wp2
          go_ret
          exact ⟨false, rfl, by simp, HBR.out⟩
        · go_wp2
          exact ⟨⟨k + 1, by omega, by go_num, Lib.hid (HX.out HOK.out), HBR⟩, by simp [intOf]; omega⟩
      · have h9' : ((ys.length : Int) == 2) = false := by rw [beq_eq_false_iff_ne]; omega
        go_wp2
        go_ret
        exact ⟨false, rfl, by simp, HBR.out⟩
    · by_cases h1 : 1 ≤ xs.length
      · go_wp2
        go_ret
        obtain rfl : k = xs.length := by omega
        have hn := hall.out
        rw [List.take_length] at hn
        exact ⟨decide ((xs.length : Int) ≤ 30), rfl, fun h => ⟨hn, ⟨h1, by have := of_decide_eq_true h; omega⟩⟩, hbel.out⟩
      · go_wp2
        go_ret
        exact ⟨false, rfl, by simp, hbel.out⟩
end Go.Proofs.YteoljiclmhmbnaaDoor.Tx

/-
  The walk of laws.same[string].
-/
set_option linter.unusedVariables false
set_option linter.unusedSimpArgs false
namespace Go.Proofs.YteoljiclmhmbnaaDoor.K
open Go.RowKit Go.Proofs.YteoljiclmhmbnaaDoorW.PrintWords

theorem atSameStr {w : World} {A : Option Addr} {n : Nat} {xs : List ByteArray} (h : (Kd.string).C w A n xs) : ∀ j (hj : j < xs.length), ∃ ad, A = some ad ∧ w.cell? (ad.add j) = some (Value.string xs[j]) := by
  intro j hj
  obtain ⟨ad, hA, hc⟩ := h.2.2 (by have := h.1; omega)
  obtain ⟨c, hl, hk, hcell⟩ := hc j xs[j] (List.getElem?_eq_getElem hj)
  have hk' : c = [Value.string xs[j]] := hk
  subst hk'
  have := hcell 0 _ rfl
  have e : (Kd.string).sz = 1 := rfl
  rw [e, Nat.mul_one, Nat.add_zero] at this
  exact ⟨ad, hA, this⟩

set_option maxHeartbeats 400000 in
theorem sameStr_any (A B : Option Addr) (c c' : Nat) (xs ys : List ByteArray) (w : World) (hC : (Kd.string).C w A xs.length xs) (hD : (Kd.string).C w B ys.length ys) :
    Calls Tryd.prog 58 #[.slice A xs.length c, .slice B ys.length c'] w fun e w' => e = .returned (.bool (decide (xs = ys))) ∧ Below w.heap.size w w' := by
  have hm := hC.2.1
  have hm' := hD.2.1
  have HC := Lib.hid hC
  have HD := Lib.hid hD
  clear hC hD
  go_enter Tryd.func58, Tryd.ntmps58
  by_cases hl : xs.length = ys.length
  rotate_left
  · have ht : ((xs.length : Int) != (ys.length : Int)) = true := by simp; omega
    have HL := Lib.hid hl
    clear hl
    go_wp2
    go_ret
    exact ⟨by rw [decide_eq_false (fun e => HL.out (by rw [e]))]; rfl, Below.refl _ _⟩
  have ht : ((xs.length : Int) != (ys.length : Int)) = false := by simp; omega
  have HL := Lib.hid hl
  clear hl
  go_wp2
  go_loopw [13] (fun i wr => ∃ k : Nat, k ≤ xs.length ∧ i = .int .i64 k ∧ Hid (xs.take k = ys.take k) ∧ Below w.heap.size w wr) (fun i _ => xs.length - (intOf i).toNat)
  case atStart => exact ⟨0, Nat.zero_le _, rfl, Lib.hid (by simp), Below.refl _ _⟩
  case round =>
    obtain ⟨k, hk, rfl, hall, hbel⟩ := hrel
    by_cases hlt : k < xs.length
    · have hlt' : k < ys.length := by have := HL.out; omega
      obtain ⟨ad, rfl, hs⟩ := atSameStr HC.out k hlt
      obtain ⟨bd, rfl, hs2⟩ := atSameStr HD.out k hlt'
      have hs' := (hbel.cell (World.block_lt_of_cell? w _ hs)).trans hs
      have hs2' := (hbel.cell (World.block_lt_of_cell? w _ hs2)).trans hs2
      clear hs hs2
      have p0 : (0 : Int) ≤ k := by omega
      have p1 : (k : Int) < (xs.length : Int) := by omega
      have p2 : (k : Int) < (ys.length : Int) := by omega
      by_cases hx : xs[k] = ys[k]
      · have hq : (xs[k].toList == ys[k].toList) = true := by rw [beq_iff_eq, hx]
        have hq2 : (xs[k].toList != ys[k].toList) = false := by rw [bne, hq]; rfl
        have HX := Lib.hid hx
        clear hx
        go_wp2
        go_quiet (fail)
        go_wp2
        refine ⟨⟨k + 1, by omega, by go_num, Lib.hid ?_, pw_below_drewN hbel _⟩, by simp [intOf]; omega⟩
        rw [List.take_succ_eq_append_getElem hlt, List.take_succ_eq_append_getElem hlt', hall.out, HX.out]
      · have hq : (xs[k].toList == ys[k].toList) = false := by rw [beq_eq_false_iff_ne]; exact fun e => hx (ba_toList e)
        have hq2 : (xs[k].toList != ys[k].toList) = true := by rw [bne, hq]; rfl
        have HX := Lib.hid hx
        clear hx
        go_wp2
        go_quiet (fail)
        go_wp2
        go_ret
        refine ⟨by rw [decide_eq_false (fun e => HX.out (by simp [e]))]; rfl, pw_below_drewN hbel _⟩
    · go_wp2
      go_ret
      obtain rfl : k = xs.length := by omega
      have h := hall.out
      rw [List.take_length, HL.out, List.take_length] at h
      exact ⟨by rw [decide_eq_true h]; rfl, hbel⟩
end Go.Proofs.YteoljiclmhmbnaaDoor.K

/-
  The walk of laws.sameUnknown at entries that are the same.
-/
set_option linter.unusedVariables false
set_option linter.unusedSimpArgs false
namespace Go.Proofs.YteoljiclmhmbnaaDoor.Tx
open Go.RowKit Go.Proofs.YteoljiclmhmbnaaDoorW.PrintWords Go.Proofs.YteoljiclmhmbnaaDoor.K

theorem same_true (A B : Option Addr) (c c' : Nat) (xs : List ByteArray) (w : World) (hC : Kd.string.C w A xs.length xs) (hD : Kd.string.C w B xs.length xs) :
    Calls Tryd.prog 58 #[.slice A xs.length c, .slice B xs.length c'] w fun e w' => e = .returned (.bool true) ∧ Below w.heap.size w w' :=
  (sameStr_any A B c c' xs xs w hC hD).mono (by rintro e w' ⟨rfl, h⟩; exact ⟨by simp, h⟩)
set_option maxHeartbeats 2000000 in
theorem sameUnknown_self (A B : Option Addr) (c c' : Nat) (xs : List Un) (w : World) (hC : kUn.C w A xs.length xs) (hD : kUn.C w B xs.length xs) :
    Calls Tryd.prog 34 #[.slice A xs.length c, .slice B xs.length c'] w fun e w' => e = .returned (.bool true) ∧ Below w.heap.size w w' := by
  have hm := hC.2.1
  have HC := Lib.hid hC
  have HD := Lib.hid hD
  clear hC hD
  go_enter Tryd.func34, Tryd.ntmps34
  go_wp2
  go_loopw [13] (fun i wr => ∃ k : Nat, k ≤ xs.length ∧ i = .int .i64 k ∧ Hid (Below w.heap.size w wr)) (fun i _ => xs.length - (intOf i).toNat)
  case atStart => exact ⟨0, Nat.zero_le _, rfl, Lib.hid (Below.refl _ _)⟩
  case round =>
    obtain ⟨k, hk, rfl, hbel⟩ := hrel
    by_cases hlt : k < xs.length
    · obtain ⟨ad, A1, c1, rfl, s0, s1, s2, s3, s4, hC1, _⟩ := uns_at (Kd.C_below HC.out hbel.out) k hlt
      obtain ⟨bd, B1, d1, rfl, t0, t1, t2, t3, t4, hD1, _⟩ := uns_at (Kd.C_below HD.out hbel.out) k hlt
      have HC1 := Lib.hid hC1
      have HD1 := Lib.hid hD1
      clear hC1 hD1
      have hszr := hbel.out.size
      have p0 : (0 : Int) ≤ k := by omega
      have p1 : (k : Int) < (xs.length : Int) := by omega
      generalize xs[k] = u at *
      obtain ⟨a, l, r, s, ys⟩ := u
      have HS := Lib.hid (same_true A1 B1 c1 d1 ys wr.drew (Kd.C_drew HC1.out) (Kd.C_drew HD1.out))
      go_wp2
      go_region_held3 (fun w' => w'.cell? (ad.add (k * 5)) = some (.int .i64 a) ∧ w'.cell? ⟨(ad.add (k * 5)).block, (ad.add (k * 5)).off + 1, none⟩ = some (.int .i64 l) ∧ w'.cell? ⟨(ad.add (k * 5)).block, (ad.add (k * 5)).off + 2, none⟩ = some (.int .i64 r) ∧ w'.cell? ⟨(ad.add (k * 5)).block, (ad.add (k * 5)).off + 3, none⟩ = some (.int .i64 s) ∧ w'.cell? ⟨(ad.add (k * 5)).block, (ad.add (k * 5)).off + 4, none⟩ = some (.slice A1 ys.length c1) ∧
          w'.cell? (bd.add (k * 5)) = some (.int .i64 a) ∧ w'.cell? ⟨(bd.add (k * 5)).block, (bd.add (k * 5)).off + 1, none⟩ = some (.int .i64 l) ∧ w'.cell? ⟨(bd.add (k * 5)).block, (bd.add (k * 5)).off + 2, none⟩ = some (.int .i64 r) ∧ w'.cell? ⟨(bd.add (k * 5)).block, (bd.add (k * 5)).off + 3, none⟩ = some (.int .i64 s) ∧ w'.cell? ⟨(bd.add (k * 5)).block, (bd.add (k * 5)).off + 4, none⟩ = some (.slice B1 ys.length d1))
        (first
          | with_reducible assumption
          | (exact ⟨s0, s1, s2, s3, s4, t0, t1, t2, t3, t4⟩)
          | (have e : ∀ {q : Addr} {v : Value}, wr.cell? q = some v → w2.cell? q = some v := fun hc => (HW2.out.cell (World.block_lt_of_cell? wr.drew _ hc)).trans hc; exact ⟨e s0, e s1, e s2, e s3, e s4, e t0, e t1, e t2, e t3, e t4⟩))
        (first
          | (go_at_call 58; go_split_ands; (refine HS.out.mono ?_); rintro e w2 ⟨rfl, hw2⟩; have HW2 := Lib.hid hw2; clear hw2))
      all_goals
        go_wp2
        exact ⟨⟨k + 1, by omega, by go_num, Lib.hid (hbel.out.trans ((show Below wr.heap.size wr w2 from (pw_below_drewN (Below.refl _ wr) 1).trans HW2.out).mono hszr))⟩, by simp [intOf]; omega⟩
    · go_wp2
      go_ret
      exact ⟨rfl, hbel.out⟩
end Go.Proofs.YteoljiclmhmbnaaDoor.Tx

/-
  Maps of numbers to numbers: what stands at a key; look-ups (with 'ok', too), updates.
-/
set_option linter.unusedVariables false
set_option linter.unusedSimpArgs false
namespace Go.Proofs.YteoljiclmhmbnaaDoor.Mi
open Go Go.RowKit Go.Proofs.YteoljiclmhmbnaaDoor.K Go.Proofs.YteoljiclmhmbnaaDoorW.PrintWords
open Go.Maps (Keyed int_keyed IsMap)

abbrev tI32 : Nat := 21
abbrev tMp : Nat := 89
theorem lawI : Keyed Tryd.prog tI32 := int_keyed Tryd.underlying21
theorem zeroI32 (w : World) : (zeroValue tI32).run Tryd.prog w = .ok (.int .i32 0) w := by kernel_rfl
theorem wf_i32 {z : Int} (h1 : 0 ≤ z) (h2 : z ≤ 2147483647) : (Lit.int .i32 z).wf = true := by
  simp only [Lit.wf, IntKind.min, IntKind.max, IntKind.signed, IntKind.bits, Bool.and_eq_true, decide_eq_true_eq]
  simp
  omega
theorem key_i32 {j : Nat} (h : j ≤ 2147483647) : keyOf Tryd.prog tI32 (.int .i32 (j : Int)) = some (.int .i32 (j : Int)) :=
  Maps.keyOf_int_mk Tryd.underlying21 (wf_i32 (by omega) (by omega))
/-- Block b is a map that has just what f tells. -/
structure MapI (b : Nat) (f : Nat → Option Nat) (m : Nat) (D : DataW Unit) (w : World) : Prop where
  own : w.ownsMap Tryd.prog tI32 (plainElem Tryd.prog tI32) b m D
  isM : IsMap D
  at_ : ∀ j : Nat, j ≤ 2147483647 → ∀ zd, D.atKey (.int .i32 (j : Int)) zd = match f j with | some c => .lit (.int .i32 (c : Int)) | none => zd
  ks : ∀ kl, Maps.has D kl = true → ∃ j : Nat, j ≤ 2147483647 ∧ kl = .int .i32 (j : Int)
theorem MapI.lt {b m : Nat} {f : Nat → Option Nat} {D : DataW Unit} {w : World} (h : MapI b f m D w) : b < w.heap.size := h.own.lt
theorem MapI.keep {b m : Nat} {f : Nat → Option Nat} {D : DataW Unit} {w w' : World} (h : MapI b f m D w) (hb : w'.heap[b]? = w.heap[b]?) : MapI b f m D w' := by
  obtain ⟨es, clock, h1, r⟩ := h.own
  exact ⟨⟨es, clock, hb.trans h1, r⟩, h.isM, h.at_, h.ks⟩
theorem MapI.below {b m : Nat} {f : Nat → Option Nat} {D : DataW Unit} {w w' : World} (h : MapI b f m D w) (hb : Below w.heap.size w w') : MapI b f m D w' := h.keep (hb.block b h.lt)
theorem MapI.drewN {b m : Nat} {f : Nat → Option Nat} {D : DataW Unit} {w : World} (h : MapI b f m D w) (n : Nat) : MapI b f m D (w.drewN n) := h.keep rfl
theorem MapI.empty {b : Nat} {w : World} (h : w.heap[b]? = some (.map #[] 0)) : MapI b (fun _ => none) 0 (.map []) w := by
  have h0 := World.ownsMap_made (H := Unit) w Tryd.prog tI32 (plainElem Tryd.prog tI32)
  obtain ⟨es, clock, h1, r⟩ := h0
  rw [heap_new] at h1
  injection h1 with h1
  injection h1 with h1 h2
  subst h1 h2
  refine ⟨⟨_, _, h, r⟩, Maps.isMap_empty, fun j _ zd => rfl, fun kl hk => ?_⟩
  simp [Maps.has] at hk
theorem MapI.none_iff {b m : Nat} {f : Nat → Option Nat} {D : DataW Unit} {w : World} (h : MapI b f m D w) {j : Nat} (hj : j ≤ 2147483647) (hz : ∀ zd, D.atKey (.int .i32 (j : Int)) zd = zd) : f j = none := by
  cases hf : f j with
  | none => rfl
  | some c =>
    have h1 := hz (.map [])
    rw [h.at_ j hj, hf] at h1
    cases h1
theorem MapI.some_of {b m : Nat} {f : Nat → Option Nat} {D : DataW Unit} {w : World} (h : MapI b f m D w) {j : Nat} (hj : j ≤ 2147483647) {c : Int} (hz : ∀ zd, D.atKey (.int .i32 (j : Int)) zd = .lit (.int .i32 c)) : ∃ q : Nat, f j = some q ∧ c = q := by
  cases hf : f j with
  | none =>
    have h1 := hz (.map [])
    rw [h.at_ j hj, hf] at h1
    cases h1
  | some q =>
    have h1 := hz (.map [])
    rw [h.at_ j hj, hf] at h1
    injection h1 with h1
    injection h1 with _ h1
    exact ⟨q, rfl, h1.symm⟩
/-- What a look-up says. -/
theorem MapI.look {b m : Nat} {f : Nat → Option Nat} {D : DataW Unit} {w : World} (h : MapI b f m D w) {j : Nat} (hj : j ≤ 2147483647) (c : Bool) :
    (Instr.lookup tMp (.map (some b)) (.int .i32 (j : Int)) c).run Tryd.prog w = .ok (if c then .tuple #[.int .i32 (((f j).getD 0 : Nat) : Int), .bool (f j).isSome] else .int .i32 (((f j).getD 0 : Nat) : Int)) w := by
  obtain ⟨es, clock, hb, F, hs, hD⟩ := h.own
  rcases Maps.fit_look c lawI Tryd.underlying89 (zeroI32 w) hb F (key_i32 hj) with ⟨hrun, _, hat⟩ | ⟨e0, y, _, _, hrun, hR, hat, _⟩
  · rw [← hD] at hat
    rw [h.none_iff hj hat]
    exact hrun
  · rw [← hD] at hat
    obtain ⟨q, hq, hy, _⟩ := plainElem_int_inv Tryd.underlying21 hR
    rw [hy] at hat
    obtain ⟨z, hz, rfl⟩ := h.some_of hj hat
    rw [hz]
    rw [hq] at hrun
    exact hrun
/-- What an update does. -/
theorem MapI.upd {b m : Nat} {f : Nat → Option Nat} {D : DataW Unit} {w : World} (h : MapI b f m D w) (hm : m < maxLen) {j c : Nat} (hj : j ≤ 2147483647) (hc : c ≤ 2147483647) :
    ∃ w', (Instr.mapUpdate tMp (.map (some b)) (.int .i32 (j : Int)) (.int .i32 (c : Int))).run Tryd.prog w = .ok () w' ∧ MapI b (fun x => if x = j then some c else f x) (m + 1) (D.put (.int .i32 (j : Int)) (.lit (.int .i32 (c : Int)))) w' ∧ w.grownBy w' (some b) := by
  obtain ⟨w', h1, h2, h3⟩ := h.own.update lawI Tryd.underlying89 hm (key_i32 hj) (plainElem_int Tryd.underlying21 (wf_i32 (by omega) (by omega) : (Lit.int .i32 (c : Int)).wf = true))
  refine ⟨w', h1, ⟨h2, h.isM.put _ _, fun x hx zd => ?_, fun kl hk => ?_⟩, h3⟩
  · by_cases e : x = j
    · subst e
      rw [if_pos rfl, Maps.atKey_put_same h.isM (lawI.key (key_i32 hx))]
    · rw [if_neg e, Maps.atKey_put_other (by intro e'; injection e' with _ e'; omega)]
      exact h.at_ x hx zd
  · by_cases e : kl = .int .i32 (j : Int)
    · exact ⟨j, hj, e⟩
    · rw [Maps.has_put_other e] at hk
      exact h.ks kl hk
section
variable {w : World} {ops : Array Oper} {rest : List Oper} {o : Oper} {a : Act} {Q : Exit → Act → World → Prop}
theorem wpList_upd (hg : o.guard = none) (m x v : Operand) (hop : o.op = Op.mapUpdate tMp m x v) {b k : Nat} {f : Nat → Option Nat} {D : DataW Unit} (h : MapI b f k D w) (hk : k < maxLen) {j c : Nat} (hj : j ≤ 2147483647) (hc : c ≤ 2147483647)
    (hm : a.eval m = .map (some b)) (hx : a.eval x = .int .i32 (j : Int)) (hv : a.eval v = .int .i32 (c : Int))
    (hK : ∀ w', MapI b (fun x => if x = j then some c else f x) (k + 1) (D.put (.int .i32 (j : Int)) (.lit (.int .i32 (c : Int)))) w' → w.grownBy w' (some b) → wpList Tryd.prog ops Q rest (a.put o.dst undef) w') :
    wpList Tryd.prog ops Q (o :: rest) a w := by
  refine wpList_plain hg fun K' hK' => ?_
  obtain ⟨w', hrun, r1, r2⟩ := h.upd hk hj hc
  unfold Oper.wp
  simp [execOp, hop, hm, hx, hv, hrun, Result.andThen]
  exact hK' _ _ (hK w' r1 r2)
theorem wpList_look (hg : o.guard = none) (m x : Operand) (ok : Bool) (hop : o.op = Op.lookup tMp m x ok) {b k : Nat} {f : Nat → Option Nat} {D : DataW Unit} (h : MapI b f k D w) {j : Nat} (hj : j ≤ 2147483647)
    (hm : a.eval m = .map (some b)) (hx : a.eval x = .int .i32 (j : Int))
    (hK : wpList Tryd.prog ops Q rest (a.put o.dst (if ok then .tuple #[.int .i32 (((f j).getD 0 : Nat) : Int), .bool (f j).isSome] else .int .i32 (((f j).getD 0 : Nat) : Int))) w) :
    wpList Tryd.prog ops Q (o :: rest) a w := by
  refine wpList_plain hg fun K' hK' => ?_
  unfold Oper.wp
  simp [execOp, hop, hm, hx, h.look hj ok, Result.andThen]
  exact hK' _ _ (by simpa using hK)
theorem wpList_look1 (hg : o.guard = none) (m x : Operand) (hop : o.op = Op.lookup tMp m x true) {b k : Nat} {f : Nat → Option Nat} {D : DataW Unit} (h : MapI b f k D w) {j c : Nat} {s : Bool} (hj : j ≤ 2147483647) (hc : (f j).getD 0 = c) (hs : (f j).isSome = s)
    (hm : a.eval m = .map (some b)) (hx : a.eval x = .int .i32 (j : Int))
    (hK : wpList Tryd.prog ops Q rest (a.put o.dst (.tuple #[.int .i32 (c : Int), .bool s])) w) :
    wpList Tryd.prog ops Q (o :: rest) a w := by
  subst hc hs
  exact wpList_look hg m x true hop h hj hm hx (by simpa using hK)
theorem wpList_look0 (hg : o.guard = none) (m x : Operand) (hop : o.op = Op.lookup tMp m x false) {b k : Nat} {f : Nat → Option Nat} {D : DataW Unit} (h : MapI b f k D w) {j c : Nat} (hj : j ≤ 2147483647) (hc : (f j).getD 0 = c)
    (hm : a.eval m = .map (some b)) (hx : a.eval x = .int .i32 (j : Int))
    (hK : wpList Tryd.prog ops Q rest (a.put o.dst (.int .i32 (c : Int))) w) :
    wpList Tryd.prog ops Q (o :: rest) a w := by
  subst hc
  exact wpList_look hg m x false hop h hj hm hx (by simpa using hK)
end
end Go.Proofs.YteoljiclmhmbnaaDoor.Mi
