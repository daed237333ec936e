/-
  A stable sort, plainly: elements are their numbers in the list as it was; what insertion, rotation and symMerge make of them.
-/
import Derived.Sort.LotA
import Derived.Test.YteoljiclmhmbnaaDoorRows
import Derived.Shelf.SlSortCmp.KitK
import Derived.Shelf.SlLaysF0
import Derived.Sort.WalkB2
import Derived.Sort.WalkB12
import Derived.Deep.LoopGhost
import Derived.Shelf.SlSortCmp.InsertionK
import Derived.Deep.DeepCutAuto
import Derived.Deep.CutBlock
import Derived.Shelf.SlLaysF
import Derived.Test.YteoljiclmhmbnaaDoorProg
import Derived.Test.YteoljiclmhmbnaaDoorWWords
import Derived.Lib.Hide
import Derived.WalkSpells
import Derived.WalkLawsBesides
import Derived.Outline
import Derived.Deep.QuietTactic
import Derived.BigQuiet
set_option linter.unusedVariables false
set_option linter.unusedSimpArgs false
namespace Go.Proofs.YteoljiclmhmbnaaDoor.St
open Go.Sort

variable {lt : Nat → Nat → Bool}

/-- The order, equal ones by their numbers. -/
def ltT (lt : Nat → Nat → Bool) (x y : Nat) : Bool := lt x y || (!lt y x && decide (x < y))
theorem ltT_true {x y : Nat} : ltT lt x y = true ↔ lt x y = true ∨ (lt y x = false ∧ x < y) := by simp [ltT]
theorem ltT_false {x y : Nat} : ltT lt x y = false ↔ lt x y = false ∧ (lt y x = true ∨ y ≤ x) := by
  cases h1 : lt x y <;> cases h2 : lt y x <;> simp [ltT, h1, h2]
theorem asym (h : SWO lt) {x y : Nat} (hx : lt x y = true) : lt y x = false := by
  cases hy : lt y x
  · rfl
  · have := h.trans _ _ _ hx hy; rw [h.irrefl] at this; cases this
theorem ltT_total (h : SWO lt) {x y : Nat} (h1 : ltT lt x y = false) (h2 : ltT lt y x = false) : x = y := by
  rw [ltT_false] at h1 h2
  rcases h1.2 with h3 | h3
  · rw [h3] at h2; cases h2.1
  · rcases h2.2 with h4 | h4
    · rw [h4] at h1; cases h1.1
    · omega
theorem ltT_asym (h : SWO lt) {x y : Nat} (hx : ltT lt x y = true) : ltT lt y x = false := by
  rw [ltT_true] at hx
  rw [ltT_false]
  rcases hx with hx | ⟨hx, hy⟩
  · exact ⟨asym h hx, .inl hx⟩
  · exact ⟨hx, .inr (by omega)⟩
theorem ltT_ntrans (h : SWO lt) {x y z : Nat} (h1 : ltT lt x y = false) (h2 : ltT lt y z = false) : ltT lt x z = false := by
  rw [ltT_false] at h1 h2 ⊢
  have h3 := h.ntrans _ _ _ h1.1 h2.1
  refine ⟨h3, ?_⟩
  cases hz : lt z x with
  | true => exact .inl rfl
  | false =>
    refine .inr ?_
    -- x, y, z are alike
    have hyx : lt y x = false := h.ntrans _ _ _ h2.1 hz
    have hzy : lt z y = false := h.ntrans _ _ _ hz h1.1
    have e1 : y ≤ x := by rcases h1.2 with e | e; · rw [hyx] at e; cases e
                          · exact e
    have e2 : z ≤ y := by rcases h2.2 with e | e; · rw [hzy] at e; cases e
                          · exact e
    omega
theorem swo_ltT (h : SWO lt) : SWO (ltT lt) where
  irrefl x := by simp [ltT, h.irrefl]
  trans x y z h1 h2 := by
    cases h3 : ltT lt x z with
    | true => rfl
    | false =>
      have h4 := ltT_ntrans h h3 (ltT_asym h h2)
      rw [h1] at h4; cases h4
  ntrans x y z h1 h2 := ltT_ntrans h h1 h2
theorem ltT_tag {x y : Nat} (h : x < y) : ltT lt y x = lt y x := by
  have : ¬ y < x := by omega
  simp [ltT, this]

/-! ### insertion -/
theorem insInner_tag (a : Nat) : ∀ (i : Nat) (d : Array Nat), i < d.size → (∀ j, a ≤ j → j < i → d[j]! < d[i]!) → insInner lt a i d = insInner (ltT lt) a i d := by
  intro i
  induction i with
  | zero => intro d _ _; rfl
  | succ i ih =>
    intro d hs h
    rw [insInner, insInner]
    by_cases hi : i + 1 > a
    · rw [ltT_tag (h i (by omega) (by omega))]
      split
      · apply ih
        · rw [size_swp]; omega
        · intro j hj hji
          rw [swp_other _ _ _ _ (by omega) (by omega), swp_right _ _ _ (by omega)]
          exact h j hj (by omega)
      · rfl
    · simp [hi]
theorem insInner_perm (h : SWO lt) (a b i : Nat) (d : Array Nat) (hab : a ≤ i) (hib : i < b) (hb : b ≤ d.size) (hs : SortedIn lt a i d) : PermIn a (i + 1) d (insInner lt a i d) := by
  have := insertionSort_holds (lt := lt) h
  exact (insInner_spec h swp_permIn permIn_refl permIn_trans a (i + 1) i (by omega) i d hab (Nat.le_refl _) (by omega) ⟨fun p q hap hpq hqi _ hq => hs p q hap hpq (by omega), fun q h1 h2 => by omega⟩).1
theorem insInner_sorted (h : SWO lt) (a b i : Nat) (d : Array Nat) (hab : a ≤ i) (hib : i < b) (hb : b ≤ d.size) (hs : SortedIn lt a i d) : SortedIn lt a (i + 1) (insInner lt a i d) :=
  (insInner_spec h swp_permIn permIn_refl permIn_trans a (i + 1) i (by omega) i d hab (Nat.le_refl _) (by omega) ⟨fun p q hap hpq hqi _ hq => hs p q hap hpq (by omega), fun q h1 h2 => by omega⟩).2
theorem insOuter_tag (h : SWO lt) (a b : Nat) : ∀ (n i : Nat) (d : Array Nat), n = b - i → a ≤ i → b ≤ d.size → SortedIn (ltT lt) a i d → (∀ x y, a ≤ x → x < y → i ≤ y → y < b → d[x]! < d[y]!) →
    insOuter lt a b i d = insOuter (ltT lt) a b i d := by
  intro n
  induction n with
  | zero =>
    intro i d hn _ _ _ _
    conv => lhs; rw [insOuter, if_neg (by omega)]
    conv => rhs; rw [insOuter, if_neg (by omega)]
  | succ n ih =>
    intro i d hn ha hb hs ht
    conv => lhs; rw [insOuter, if_pos (show i < b by omega)]
    conv => rhs; rw [insOuter, if_pos (show i < b by omega)]
    have e := insInner_tag (lt := lt) a i d (by omega) (fun j hj hji => ht j i hj hji (Nat.le_refl _) (by omega))
    rw [e]
    have hP := insInner_perm (swo_ltT h) a b i d ha (by omega) hb hs
    refine ih (i + 1) _ (by omega) (by omega) (by rw [hP.1]; exact hb) (insInner_sorted (swo_ltT h) a b i d ha (by omega) hb hs) ?_
    intro x y hx hxy hiy hy
    rw [hP.2.1 y (by omega)]
    by_cases hxi : x < i + 1
    · exact permIn_all d _ a (i + 1) (fun v => v < d[y]!) (by omega) hP (fun z hz hzi => ht z y hz (by omega) (by omega) hy) x hx hxi
    · rw [hP.2.1 x (by omega)]
      exact ht x y hx hxy (by omega) hy
theorem ins_tag (h : SWO lt) (a b : Nat) (d : Array Nat) (hab : a ≤ b) (hb : b ≤ d.size) (ht : ∀ x y, a ≤ x → x < y → y < b → d[x]! < d[y]!) : insertionSort lt d a b = insertionSort (ltT lt) d a b := by
  unfold insertionSort
  exact insOuter_tag h a b _ (a + 1) d rfl (by omega) hb (fun i j h1 h2 h3 => by omega) (fun x y hx hxy _ hy => ht x y hx hxy hy)

/-! ### rotation -/
/-- d' is d with [a, m) and [m, b) exchanged. -/
def RotOf (a m b : Nat) (d d' : Array Nat) : Prop :=
  d'.size = d.size ∧ (∀ x, x < a ∨ b ≤ x → d'[x]! = d[x]!) ∧ (∀ x, a ≤ x → x < a + (b - m) → d'[x]! = d[x + (m - a)]!) ∧ (∀ x, a + (b - m) ≤ x → x < b → d'[x]! = d[x - (b - m)]!)
theorem rot_nil_left (m b : Nat) (d : Array Nat) : RotOf m m b d d := ⟨rfl, fun _ _ => rfl, fun x _ _ => by rw [Nat.sub_self, Nat.add_zero], fun x h1 h2 => by omega⟩
theorem rot_nil_right (a m : Nat) (d : Array Nat) : RotOf a m m d d := ⟨rfl, fun _ _ => rfl, fun x h1 h2 => by omega, fun x _ _ => by rw [Nat.sub_self, Nat.sub_zero]⟩

/-- d' is d with the n elements from a on and the n from b on exchanged. -/
def SwOf (a b n : Nat) (d d' : Array Nat) : Prop :=
  d'.size = d.size ∧ (∀ x, (x < a ∨ a + n ≤ x) → (x < b ∨ b + n ≤ x) → d'[x]! = d[x]!) ∧ (∀ x, a ≤ x → x < a + n → d'[x]! = d[b + (x - a)]!) ∧ (∀ x, b ≤ x → x < b + n → d'[x]! = d[a + (x - b)]!)
theorem sw_zero (a b : Nat) (d : Array Nat) : SwOf a b 0 d d := ⟨rfl, fun _ _ _ => rfl, fun x _ _ => by omega, fun x _ _ => by omega⟩
theorem sw_step {a b i : Nat} {d d' : Array Nat} (h : SwOf a b i d d') (hab : a + i < b) (hb : b + i < d.size) : SwOf a b (i + 1) d (swp d' (a + i) (b + i)) := by
  obtain ⟨h1, h2, h3, h4⟩ := h
  refine ⟨by rw [size_swp, h1], ?_, ?_, ?_⟩
  · intro x hx hy
    rw [swp_other _ _ _ _ (by omega) (by omega)]
    exact h2 x (by omega) (by omega)
  · intro x hx hy
    by_cases e : x = a + i
    · subst e
      rw [swp_left _ _ _ (by omega) (by omega), h2 (b + i) (by omega) (by omega)]
      congr 1; omega
    · rw [swp_other _ _ _ _ (by omega) (by omega)]
      exact h3 x hx (by omega)
  · intro x hx hy
    by_cases e : x = b + i
    · subst e
      rw [swp_right _ _ _ (by omega), h2 (a + i) (by omega) (by omega)]
      congr 1; omega
    · rw [swp_other _ _ _ _ (by omega) (by omega)]
      exact h4 x hx (by omega)

/-- What is left to rotate: dk with [m - i, m) and [m, m + j) exchanged is what is wanted. -/
def Lf (a m b i j : Nat) (d dk : Array Nat) : Prop := ∀ T, RotOf (m - i) m (m + j) dk T → RotOf a m b d T
theorem left_start {a m b : Nat} {d : Array Nat} (ha : a ≤ m) (hb : m ≤ b) : Lf a m b (m - a) (b - m) d d := by
  intro T h
  rwa [show m - (m - a) = a by omega, show m + (b - m) = b by omega] at h
theorem left_gt {a m b i j : Nat} {d dk dl : Array Nat} (h : Lf a m b i j d dk) (hij : j < i) (hi : i ≤ m) (hs : SwOf (m - i) m j dk dl) : Lf a m b (i - j) j d dl := by
  intro T hT
  apply h
  obtain ⟨s1, s2, s3, s4⟩ := hs
  obtain ⟨t1, t2, t3, t4⟩ := hT
  refine ⟨by rw [t1, s1], ?_, ?_, ?_⟩
  · intro x hx
    rw [t2 x (by omega), s2 x (by omega) (by omega)]
  · intro x hx hy
    by_cases e : x < m - (i - j)
    · rw [t2 x (by omega), s3 x (by omega) (by omega)]
      congr 1; omega
    · omega
  · intro x hx hy
    by_cases e : x < m - (i - j) + (m + j - m)
    · rw [t3 x (by omega) e]
      rw [s4 (x + (m - (m - (i - j)))) (by omega) (by omega)]
      congr 1; omega
    · rw [t4 x (by omega) (by omega)]
      rw [s2 _ (by omega) (by omega)]
theorem left_lt {a m b i j : Nat} {d dk dl : Array Nat} (h : Lf a m b i j d dk) (hij : i < j) (hi : i ≤ m) (hs : SwOf (m - i) (m + j - i) i dk dl) : Lf a m b i (j - i) d dl := by
  intro T hT
  apply h
  obtain ⟨s1, s2, s3, s4⟩ := hs
  obtain ⟨t1, t2, t3, t4⟩ := hT
  refine ⟨by rw [t1, s1], ?_, ?_, ?_⟩
  · intro x hx
    rw [t2 x (by omega), s2 x (by omega) (by omega)]
  · intro x hx hy
    by_cases e : x < m - i + (m + (j - i) - m)
    · rw [t3 x (by omega) e, s2 _ (by omega) (by omega)]
    · by_cases e2 : x < m + (j - i)
      · rw [t4 x (by omega) e2, s3 _ (by omega) (by omega)]
        congr 1; omega
      · omega
  · intro x hx hy
    rw [t2 x (by omega), s4 x (by omega) (by omega)]
    congr 1; omega
theorem left_eq {a m b i : Nat} {d dk dl : Array Nat} (h : Lf a m b i i d dk) (hi : i ≤ m) (hs : SwOf (m - i) m i dk dl) : RotOf a m b d dl := by
  apply h
  obtain ⟨s1, s2, s3, s4⟩ := hs
  refine ⟨s1, fun x hx => s2 x (by omega) (by omega), fun x hx hy => ?_, fun x hx hy => ?_⟩
  · rw [s3 x hx (by omega)]; congr 1; omega
  · rw [s4 x (by omega) (by omega)]; congr 1; omega

/-! ### symMerge -/
/-- Two ascending rows side by side, the numbers of the first below those of the second. -/
structure Mp (lt : Nat → Nat → Bool) (a m b : Nat) (d : Array Nat) : Prop where
  am : a < m
  mb : m < b
  bs : b ≤ d.size
  s1 : SortedIn (ltT lt) a m d
  s2 : SortedIn (ltT lt) m b d
  tg : ∀ i j, a ≤ i → i < m → m ≤ j → j < b → d[i]! < d[j]!
/-- What they become. -/
def Post (lt : Nat → Nat → Bool) (a b : Nat) (d d' : Array Nat) : Prop := PermIn a b d d' ∧ SortedIn (ltT lt) a b d'
theorem Mp.lt_eq {a m b : Nat} {d : Array Nat} (h : Mp lt a m b d) {i j : Nat} (h1 : a ≤ i) (h2 : i < m) (h3 : m ≤ j) (h4 : j < b) : lt d[j]! d[i]! = ltT lt d[j]! d[i]! := (ltT_tag (h.tg i j h1 h2 h3 h4)).symm
/-- The comparison across the two rows is monotonous. -/
theorem Mp.mono (hS : SWO lt) {a m b : Nat} {d : Array Nat} (h : Mp lt a m b d) {x y z z' : Nat} (h1 : a ≤ z) (h2 : z ≤ z') (h3 : z' < m) (h4 : m ≤ x) (h5 : x ≤ y) (h6 : y < b) (hl : lt d[y]! d[z]! = true) : lt d[x]! d[z']! = true := by
  rw [h.lt_eq h1 (by omega) (by omega) h6] at hl
  rw [h.lt_eq (by omega) h3 h4 (by omega)]
  cases hc : ltT lt d[x]! d[z']! with
  | true => rfl
  | false =>
    have k1 : ltT lt d[y]! d[x]! = false := by
      by_cases e1 : x = y
      · rw [e1]; exact (swo_ltT hS).irrefl _
      · exact h.s2 x y h4 (by omega) h6
    have k2 : ltT lt d[z']! d[z]! = false := by
      by_cases e1 : z = z'
      · rw [e1]; exact (swo_ltT hS).irrefl _
      · exact h.s1 z z' h1 (by omega) h3
    have := ltT_ntrans hS (ltT_ntrans hS k1 hc) k2
    rw [hl] at this; cases this
theorem Mp.mono' (hS : SWO lt) {a m b : Nat} {d : Array Nat} (h : Mp lt a m b d) {x y z z' : Nat} (h1 : a ≤ z) (h2 : z ≤ z') (h3 : z' < m) (h4 : m ≤ x) (h5 : x ≤ y) (h6 : y < b) (hl : lt d[x]! d[z']! = false) : lt d[y]! d[z]! = false := by
  cases hc : lt d[y]! d[z]! with
  | false => rfl
  | true => rw [h.mono hS h1 h2 h3 h4 h5 h6 hc] at hl; cases hl
/-- A step of the element to the right. -/
theorem rot_step_right {a k : Nat} {d dk : Array Nat} (h : RotOf a (a + 1) (k + 1) d dk) (ha : a ≤ k) (hk : k + 1 < d.size) : RotOf a (a + 1) (k + 2) d (swp dk k (k + 1)) := by
  obtain ⟨h1, h2, h3, h4⟩ := h
  have e4 : dk[k]! = d[a]! := by rw [h4 k (by omega) (by omega)]; congr 1; omega
  refine ⟨by rw [size_swp, h1], fun x hx => ?_, fun x hx hy => ?_, fun x hx hy => ?_⟩
  · rw [swp_other _ _ _ _ (by omega) (by omega)]; exact h2 x (by omega)
  · by_cases e : x = k
    · subst e
      rw [swp_left _ _ _ (by omega) (by omega), h2 (x + 1) (by omega)]
      congr 1; omega
    · rw [swp_other _ _ _ _ (by omega) (by omega), h3 x hx (by omega)]
  · have e : x = k + 1 := by omega
    subst e
    rw [swp_right _ _ _ (by omega), e4]
    congr 1; omega
/-- .. to the left. -/
theorem rot_step_left {m k : Nat} {d dk : Array Nat} (h : RotOf (k + 1) m (m + 1) d dk) (hk : k + 1 ≤ m) (hm : m < d.size) : RotOf k m (m + 1) d (swp dk (k + 1) k) := by
  obtain ⟨h1, h2, h3, h4⟩ := h
  have e3 : dk[k + 1]! = d[m]! := by rw [h3 (k + 1) (by omega) (by omega)]; congr 1; omega
  refine ⟨by rw [size_swp, h1], fun x hx => ?_, fun x hx hy => ?_, fun x hx hy => ?_⟩
  · rw [swp_other _ _ _ _ (by omega) (by omega)]; exact h2 x (by omega)
  · have e : x = k := by omega
    subst e
    rw [swp_right _ _ _ (by omega), e3]
    congr 1; omega
  · by_cases e : x = k + 1
    · subst e
      rw [swp_left _ _ _ (by omega) (by omega), h2 k (by omega)]
      congr 1; omega
    · rw [swp_other _ _ _ _ (by omega) (by omega), h4 x (by omega) hy]
/-- One element into the second row. -/
theorem one_left (hS : SWO lt) {a b i : Nat} {d d' : Array Nat} (h : Mp lt a (a + 1) b d) (hi : a + 1 ≤ i) (hib : i ≤ b) (h1 : ∀ x, a + 1 ≤ x → x < i → lt d[x]! d[a]! = true) (h2 : ∀ x, i ≤ x → x < b → lt d[x]! d[a]! = false) (hr : RotOf a (a + 1) i d d') :
    SortedIn (ltT lt) a b d' := by
  obtain ⟨r1, r2, r3, r4⟩ := hr
  have g1 : ∀ x, a + 1 ≤ x → x < i → ltT lt d[x]! d[a]! = true := fun x hx hy => by rw [← h.lt_eq (Nat.le_refl _) (by omega) hx (by omega)]; exact h1 x hx hy
  have g2 : ∀ x, i ≤ x → x < b → ltT lt d[x]! d[a]! = false := fun x hx hy => by rw [← h.lt_eq (Nat.le_refl _) (by omega) (by omega) hy]; exact h2 x hx hy
  have p1 : ∀ x, a ≤ x → x < i - 1 → d'[x]! = d[x + 1]! := fun x hx hy => by rw [r3 x hx (by omega)]; congr 1; omega
  have p2 : d'[i - 1]! = d[a]! := by rw [r4 (i - 1) (by omega) (by omega)]; congr 1; omega
  have p3 : ∀ x, i ≤ x → d'[x]! = d[x]! := fun x hx => r2 x (by omega)
  intro x y hx hxy hy
  rcases Nat.lt_trichotomy y (i - 1) with e | e | e
  · rw [p1 x hx (by omega), p1 y (by omega) e]
    exact h.s2 _ _ (by omega) (by omega) (by omega)
  · rw [e, p2, p1 x hx (by omega)]
    exact ltT_asym hS (g1 _ (by omega) (by omega))
  · rw [p3 y (by omega)]
    rcases Nat.lt_trichotomy x (i - 1) with e' | e' | e'
    · rw [p1 x hx e']
      exact h.s2 _ _ (by omega) (by omega) (by omega)
    · rw [e', p2]; exact g2 y (by omega) hy
    · rw [p3 x (by omega)]
      exact h.s2 _ _ (by omega) (by omega) (by omega)
/-- One element into the first row. -/
theorem one_right (hS : SWO lt) {a m i : Nat} {d d' : Array Nat} (h : Mp lt a m (m + 1) d) (hi : a ≤ i) (him : i ≤ m) (h1 : ∀ x, a ≤ x → x < i → lt d[m]! d[x]! = false) (h2 : ∀ x, i ≤ x → x < m → lt d[m]! d[x]! = true) (hr : RotOf i m (m + 1) d d') :
    SortedIn (ltT lt) a (m + 1) d' := by
  obtain ⟨r1, r2, r3, r4⟩ := hr
  have g1 : ∀ x, a ≤ x → x < i → ltT lt d[m]! d[x]! = false := fun x hx hy => by rw [← h.lt_eq hx (by omega) (Nat.le_refl _) (by omega)]; exact h1 x hx hy
  have g2 : ∀ x, i ≤ x → x < m → ltT lt d[m]! d[x]! = true := fun x hx hy => by rw [← h.lt_eq (by omega) (by omega) (Nat.le_refl _) (by omega)]; exact h2 x hx hy
  have p1 : ∀ x, x < i → d'[x]! = d[x]! := fun x hx => r2 x (by omega)
  have p2 : d'[i]! = d[m]! := by rw [r3 i (by omega) (by omega)]; congr 1; omega
  have p3 : ∀ x, i < x → x ≤ m → d'[x]! = d[x - 1]! := fun x hx hy => by rw [r4 x (by omega) (by omega)]; congr 1; omega
  intro x y hx hxy hy
  rcases Nat.lt_trichotomy y i with e | e | e
  · rw [p1 x (by omega), p1 y (by omega)]
    exact h.s1 _ _ (by omega) (by omega) (by omega)
  · rw [e, p2, p1 x (by omega)]
    exact g1 _ (by omega) (by omega)
  · rw [p3 y (by omega) (by omega)]
    rcases Nat.lt_trichotomy x i with e' | e' | e'
    · rw [p1 x e']
      by_cases e2 : x = y - 1
      · omega
      · exact h.s1 _ _ (by omega) (by omega) (by omega)
    · rw [e', p2]; exact ltT_asym hS (g2 _ (by omega) (by omega))
    · rw [p3 x (by omega) (by omega)]
      exact h.s1 _ _ (by omega) (by omega) (by omega)
/-- What holds behind the search and the rotation. -/
structure Cross (lt : Nat → Nat → Bool) (a s mid e b : Nat) (d : Array Nat) : Prop where
  lo : a ≤ s
  sm : s ≤ mid
  me : mid ≤ e
  eb : e ≤ b
  bs : b ≤ d.size
  p1 : SortedIn (ltT lt) a s d
  p2 : SortedIn (ltT lt) s mid d
  p3 : SortedIn (ltT lt) mid e d
  p4 : SortedIn (ltT lt) e b d
  t1 : ∀ i j, a ≤ i → i < s → s ≤ j → j < mid → d[i]! < d[j]!
  t2 : ∀ i j, mid ≤ i → i < e → e ≤ j → j < b → d[i]! < d[j]!
  cr : ∀ i j, a ≤ i → i < mid → mid ≤ j → j < b → ltT lt d[j]! d[i]! = false
theorem cross_of (hS : SWO lt) {a m b s e mid : Nat} {d d1 : Array Nat} (h : Mp lt a m b d) (h1 : a ≤ s) (h2 : s ≤ m) (h3 : m ≤ e) (h4 : e ≤ b) (he : s + e = mid + m)
    (hx : s < m → m < e → lt d[e - 1]! d[s]! = true) (hy : a < s → e < b → lt d[e]! d[s - 1]! = false) (hr : RotOf s m e d d1) : Cross lt a s mid e b d1 := by
  obtain ⟨r1, r2, r3, r4⟩ := hr
  have gx : ∀ i j, s ≤ i → i < m → m ≤ j → j < e → ltT lt d[j]! d[i]! = true := fun i j hi him hj hje => by
    have := hx (by omega) (by omega)
    rw [h.lt_eq (by omega) (by omega) (by omega) (by omega)] at this
    cases hc : ltT lt d[j]! d[i]! with
    | true => rfl
    | false =>
      have k1 : ltT lt d[e - 1]! d[j]! = false := by
        by_cases e1 : j = e - 1
        · rw [e1]; exact (swo_ltT hS).irrefl _
        · exact h.s2 j (e - 1) hj (by omega) (by omega)
      have k2 : ltT lt d[i]! d[s]! = false := by
        by_cases e1 : i = s
        · rw [e1]; exact (swo_ltT hS).irrefl _
        · exact h.s1 s i (by omega) (by omega) (by omega)
      have := ltT_ntrans hS (ltT_ntrans hS k1 hc) k2
      simp_all
  have gy : ∀ i j, a ≤ i → i < s → e ≤ j → j < b → ltT lt d[j]! d[i]! = false := fun i j hi his hj hjb => by
    have := hy (by omega) (by omega)
    rw [h.lt_eq (by omega) (by omega) (by omega) (by omega)] at this
    have k1 : ltT lt d[j]! d[e]! = false := by
      by_cases e1 : j = e
      · rw [e1]; exact (swo_ltT hS).irrefl _
      · exact h.s2 e j (by omega) (by omega) (by omega)
    have k2 : ltT lt d[s - 1]! d[i]! = false := by
      by_cases e1 : i = s - 1
      · rw [e1]; exact (swo_ltT hS).irrefl _
      · exact h.s1 i (s - 1) (by omega) (by omega) (by omega)
    exact ltT_ntrans hS (ltT_ntrans hS k1 this) k2
  have q1 : ∀ x, x < s → d1[x]! = d[x]! := fun x hx => r2 x (by omega)
  have q2 : ∀ x, s ≤ x → x < mid → d1[x]! = d[x + (m - s)]! := fun x hx hy => r3 x hx (by omega)
  have q3 : ∀ x, mid ≤ x → x < e → d1[x]! = d[x - (e - m)]! := fun x hx hy => r4 x (by omega) hy
  have q4 : ∀ x, e ≤ x → d1[x]! = d[x]! := fun x hx => r2 x (by omega)
  have hsm : s ≤ mid := by omega
  have hme : mid ≤ e := by omega
  refine ⟨h1, hsm, hme, h4, by rw [r1]; exact h.bs, ?_, ?_, ?_, ?_, ?_, ?_, ?_⟩
  · intro i j hi hij hj
    rw [q1 _ hj, q1 _ (by omega)]; exact h.s1 _ _ hi hij (by omega)
  · intro i j hi hij hj
    rw [q2 _ (by omega) hj, q2 _ hi (by omega)]; exact h.s2 _ _ (by omega) (by omega) (by omega)
  · intro i j hi hij hj
    rw [q3 _ (by omega) hj, q3 _ hi (by omega)]; exact h.s1 _ _ (by omega) (by omega) (by omega)
  · intro i j hi hij hj
    rw [q4 _ (by omega), q4 _ hi]; exact h.s2 _ _ (by omega) (by omega) (by omega)
  · intro i j hi his hj hjm
    rw [q1 _ his, q2 _ hj hjm]; exact h.tg _ _ hi (by omega) (by omega) (by omega)
  · intro i j hi his hj hjm
    rw [q3 _ hi his, q4 _ hj]; exact h.tg _ _ (by omega) (by omega) (by omega) hjm
  · intro i j hi him hj hjb
    by_cases c1 : i < s
    · rw [q1 _ c1]
      by_cases c2 : j < e
      · rw [q3 _ hj c2]; exact h.s1 _ _ hi (by omega) (by omega)
      · rw [q4 _ (by omega)]; exact gy _ _ hi c1 (by omega) hjb
    · rw [q2 _ (by omega) him]
      by_cases c2 : j < e
      · rw [q3 _ hj c2]; exact ltT_asym hS (gx _ _ (by omega) (by omega) (by omega) (by omega))
      · rw [q4 _ (by omega)]; exact h.s2 _ _ (by omega) (by omega) hjb
theorem Cross.left {a s mid e b : Nat} {d : Array Nat} (h : Cross lt a s mid e b d) (h1 : a < s) (h2 : s < mid) : Mp lt a s mid d :=
  ⟨h1, h2, by have := h.me; have := h.eb; have := h.bs; omega, h.p1, h.p2, h.t1⟩
/-- Without a first call the left half ascends. -/
theorem Cross.left_id {a s mid e b : Nat} {d : Array Nat} (h : Cross lt a s mid e b d) (hn : ¬ (a < s ∧ s < mid)) : Post lt a mid d d := by
  refine ⟨permIn_refl _ _ _, ?_⟩
  have := h.lo; have := h.sm
  by_cases c : a < s
  · have e : s = mid := by omega
    rw [← e]; exact h.p1
  · have e : a = s := by omega
    rw [e]; exact h.p2
theorem Cross.mid {a s mid e b : Nat} {d d2 : Array Nat} (h : Cross lt a s mid e b d) (hp : Post lt a mid d d2) : SortedIn (ltT lt) mid e d2 ∧ SortedIn (ltT lt) e b d2 ∧ (∀ i j, mid ≤ i → i < e → e ≤ j → j < b → d2[i]! < d2[j]!) ∧ (∀ i j, a ≤ i → i < mid → mid ≤ j → j < b → ltT lt d2[j]! d2[i]! = false) := by
  have e2 : ∀ x, mid ≤ x → d2[x]! = d[x]! := fun x hx => hp.1.2.1 x (.inr hx)
  have hme := h.me
  have heb := h.eb
  have hbs := h.bs
  refine ⟨fun i j hi hij hj => ?_, fun i j hi hij hj => ?_, fun i j hi hie hj hjb => ?_, fun i j hi him hj hjb => ?_⟩
  · rw [e2 _ (by omega), e2 _ (by omega)]; exact h.p3 _ _ hi hij hj
  · rw [e2 _ (by omega), e2 _ (by omega)]; exact h.p4 _ _ hi hij hj
  · rw [e2 _ (by omega), e2 _ (by omega)]; exact h.t2 _ _ hi hie hj hjb
  · rw [e2 _ hj]
    exact permIn_all d d2 a mid (fun v => ltT lt d[j]! v = false) (by omega) hp.1 (fun x hx hxm => h.cr x j hx hxm hj hjb) i hi him
theorem Cross.right {a s mid e b : Nat} {d d2 : Array Nat} (h : Cross lt a s mid e b d) (hp : Post lt a mid d d2) (h1 : mid < e) (h2 : e < b) : Mp lt mid e b d2 :=
  ⟨h1, h2, by rw [hp.1.1]; exact h.bs, (h.mid hp).1, (h.mid hp).2.1, (h.mid hp).2.2.1⟩
theorem Cross.right_id {a s mid e b : Nat} {d d2 : Array Nat} (h : Cross lt a s mid e b d) (hp : Post lt a mid d d2) (hn : ¬ (mid < e ∧ e < b)) : Post lt mid b d2 d2 := by
  refine ⟨permIn_refl _ _ _, ?_⟩
  have := h.me; have := h.eb
  by_cases c : mid < e
  · have e : e = b := by omega
    rw [← e]; exact (h.mid hp).1
  · have e : mid = e := by omega
    rw [e]; exact (h.mid hp).2.1
theorem Cross.done {a s mid e b : Nat} {d d2 d3 : Array Nat} (h : Cross lt a s mid e b d) (hp : Post lt a mid d d2) (hq : Post lt mid b d2 d3) : Post lt a b d d3 := by
  have hbs := h.bs
  have has := h.lo
  have hsm := h.sm
  have hme := h.me
  have heb := h.eb
  refine ⟨permIn_trans _ _ _ _ _ (permIn_mono d d2 a mid a b (Nat.le_refl _) (by omega) hbs hp.1) (permIn_mono d2 d3 mid b a b (by omega) (Nat.le_refl _) (by rw [hp.1.1]; exact hbs) hq.1), ?_⟩
  have e3 : ∀ x, x < mid → d3[x]! = d2[x]! := fun x hx => hq.1.2.1 x (.inl hx)
  intro i j hi hij hj
  by_cases c1 : j < mid
  · rw [e3 _ c1, e3 _ (by omega)]; exact hp.2 _ _ hi hij c1
  · by_cases c2 : i < mid
    · rw [e3 _ c2]
      exact permIn_all d2 d3 mid b (fun v => ltT lt v d2[i]! = false) (by rw [hp.1.1]; exact hbs) hq.1 (fun x hx hxb => (h.mid hp).2.2.2 i x hi c2 hx hxb) j (by omega) hj
    · exact hq.2 _ _ (by omega) hij hj

/-! ### blocks -/
/-- From lo to hi each block of B is ascending, and has its own numbers. -/
def Blk (lt : Nat → Nat → Bool) (B lo hi : Nat) (d : Array Nat) : Prop := ∀ i, lo ≤ i → i < hi → d[i]! / B = i / B ∧ ∀ j, i < j → j < hi → i / B = j / B → ltT lt d[j]! d[i]! = false
theorem div_blk {B q i : Nat} (hB : 0 < B) : i / B = q ↔ B * q ≤ i ∧ i < B * q + B := by
  rw [Nat.div_eq_iff hB]
  constructor
  · rintro ⟨h1, h2⟩; rw [Nat.mul_comm]; omega
  · rintro ⟨h1, h2⟩; rw [Nat.mul_comm q B]; omega
/-- A block more. -/
theorem blk_more {B q lo' hi : Nat} {d d' : Array Nat} (hB : 0 < B) (h : Blk lt B 0 (B * q) d) (hq : B * q ≤ hi) (hhi : hi ≤ B * q + B) (hs : hi ≤ d.size) (hp : PermIn (B * q) hi d d') (ht : ∀ i, B * q ≤ i → i < hi → d[i]! / B = q) (hso : SortedIn (ltT lt) (B * q) hi d') : Blk lt B 0 hi d' := by
  have hold : ∀ x, x < B * q → d'[x]! = d[x]! := fun x hx => hp.2.1 x (.inl hx)
  intro i _ hi'
  by_cases c : i < B * q
  · rw [hold i c]
    refine ⟨(h i (Nat.zero_le _) c).1, fun j hij hj he => ?_⟩
    have : j < B * q := by
      have e1 : i / B < q := by rw [Nat.div_lt_iff_lt_mul hB, Nat.mul_comm]; exact c
      rw [he, Nat.div_lt_iff_lt_mul hB, Nat.mul_comm] at e1
      exact e1
    rw [hold j this]
    exact (h i (Nat.zero_le _) c).2 j hij this he
  · have e : i / B = q := (div_blk hB).2 ⟨by omega, by omega⟩
    refine ⟨?_, fun j hij hj _ => hso i j (by omega) hij hj⟩
    rw [e]
    exact permIn_all d d' (B * q) hi (fun v => v / B = q) hs hp ht i (by omega) hi'
theorem blk_rest {B lo hi lo' hi' : Nat} {d d' : Array Nat} (h : Blk lt B lo' hi' d) (hp : PermIn lo hi d d') (hh : hi ≤ lo') : Blk lt B lo' hi' d' := by
  intro i h1 h2
  have e : ∀ x, lo' ≤ x → d'[x]! = d[x]! := fun x hx => hp.2.1 x (.inr (by omega))
  rw [e i h1]
  refine ⟨(h i h1 h2).1, fun j hij hj he => ?_⟩
  rw [e j (by omega)]
  exact (h i h1 h2).2 j hij hj he
theorem blk_mono {B lo hi lo' hi' : Nat} {d : Array Nat} (h : Blk lt B lo hi d) (h1 : lo ≤ lo') (h2 : hi' ≤ hi) : Blk lt B lo' hi' d := fun i a b => ⟨(h i (by omega) (by omega)).1, fun j c e f => (h i (by omega) (by omega)).2 j c (by omega) f⟩
theorem blk_sorted {B q lo hi : Nat} {d : Array Nat} (hB : 0 < B) (h : Blk lt B lo hi d) (h1 : B * q ≤ lo) (h2 : hi ≤ B * q + B) : SortedIn (ltT lt) lo hi d := fun i j hi' hij hj =>
  (h i hi' (by omega)).2 j hij hj (by rw [(div_blk (q := q) hB).2 ⟨by omega, by omega⟩, (div_blk (q := q) hB).2 ⟨by omega, by omega⟩])
theorem blk_tag {B q lo hi : Nat} {d : Array Nat} (hB : 0 < B) (h : Blk lt B lo hi d) (i : Nat) (h0 : lo ≤ i) (h3 : i < hi) (h1 : B * q ≤ i) (h2 : i < B * q + B) : B * q ≤ d[i]! ∧ d[i]! < B * q + B := by
  rw [← div_blk hB, (h i h0 h3).1, div_blk hB]
  exact ⟨h1, h2⟩
/-- Two blocks side by side can be merged. -/
theorem blk_mp {B q n b : Nat} {d : Array Nat} (hB : 0 < B) (h : Blk lt B (2 * B * q) n d) (hn : n ≤ d.size) (h1 : 2 * B * q + B < b) (h2 : b ≤ 2 * B * q + 2 * B) (h3 : b ≤ n) : Mp lt (2 * B * q) (2 * B * q + B) b d := by
  have e1 : B * (2 * q) = 2 * B * q := by rw [← Nat.mul_assoc, Nat.mul_comm B 2]
  have e2 : B * (2 * q + 1) = 2 * B * q + B := by rw [Nat.mul_add, e1, Nat.mul_one]
  refine ⟨by omega, h1, by omega, blk_sorted (q := 2 * q) hB (blk_mono h (Nat.le_refl _) (by omega)) (by omega) (by omega), blk_sorted (q := 2 * q + 1) hB (blk_mono h (by omega) h3) (by omega) (by omega), fun i j hi him hj hjb => ?_⟩
  have k1 := blk_tag (q := 2 * q) hB h i hi (by omega) (by omega) (by omega)
  have k2 := blk_tag (q := 2 * q + 1) hB h j (by omega) (by omega) (by omega) (by omega)
  omega
theorem blk_tag2 {B q n : Nat} {d : Array Nat} (hB : 0 < B) (h : Blk lt B (2 * B * q) n d) (i : Nat) (h1 : 2 * B * q ≤ i) (h2 : i < n) (h3 : i < 2 * B * q + 2 * B) : d[i]! / (2 * B) = q := by
  have e1 : B * (2 * q) = 2 * B * q := by rw [← Nat.mul_assoc, Nat.mul_comm B 2]
  have e2 : B * (2 * q + 1) = 2 * B * q + B := by rw [Nat.mul_add, e1, Nat.mul_one]
  rw [div_blk (by omega)]
  by_cases c : i < 2 * B * q + B
  · have := blk_tag (q := 2 * q) hB h i h1 h2 (by omega) (by omega); omega
  · have := blk_tag (q := 2 * q + 1) hB h i h1 h2 (by omega) (by omega); omega

/-- The one stable order of n elements. -/
def stab (lt : Nat → Nat → Bool) (n : Nat) : Array Nat := insertionSort lt (Array.range n) 0 n
theorem get_range {n i : Nat} (h : i < n) : (Array.range n)[i]! = i := by rw [getElem!_pos _ i (by simpa using h)]; simp
theorem stab_of (h : SWO lt) {n : Nat} {d : Array Nat} (hp : PermIn 0 n (Array.range n) d) (hs : SortedIn (ltT lt) 0 n d) : d = stab lt n := by
  unfold stab
  rw [ins_tag h 0 n _ (Nat.zero_le _) (by simp) (fun x y _ hxy hy => by rw [get_range (by omega), get_range hy]; exact hxy)]
  have h2 := insertionSort_holds (swo_ltT h) (Array.range n) 0 n (Nat.zero_le _) (by simp)
  have u := sorted_unique_holds (lt := ltT lt) (swo_ltT h) (fun x y h1 h2 => ltT_total h h1 h2)
  have hz : (Array.range n).size = n := by simp
  have a1 := u (Array.range n) d (by rw [hz]; exact hp) (by rw [hz]; exact hs)
  have a2 := u (Array.range n) _ (by rw [hz]; exact h2.1) (by rw [hz]; exact h2.2)
  exact Array.toList_inj.1 (a1.trans a2.symm)
theorem stab_perm (h : SWO lt) (n : Nat) : PermIn 0 n (Array.range n) (stab lt n) := (insertionSort_holds h (Array.range n) 0 n (Nat.zero_le _) (by simp)).1
theorem stab_size (h : SWO lt) (n : Nat) : (stab lt n).size = n := by rw [(stab_perm h n).1]; simp
theorem stab_sorted (h : SWO lt) (n : Nat) : SortedIn lt 0 n (stab lt n) := (insertionSort_holds h (Array.range n) 0 n (Nat.zero_le _) (by simp)).2
/-- The blocks of 20, one by one. -/
theorem blk_ins (h : SWO lt) {B q n b : Nat} {d : Array Nat} (hB : 0 < B) (hsz : d.size = n) (hb : Blk lt B 0 (B * q) d) (hid : ∀ i, B * q ≤ i → i < n → d[i]! = i) (hq : B * q ≤ b) (hbq : b ≤ B * q + B) (hbn : b ≤ n) :
    Blk lt B 0 b (insertionSort lt d (B * q) b) ∧ (insertionSort lt d (B * q) b).size = n ∧ (∀ i, b ≤ i → i < n → (insertionSort lt d (B * q) b)[i]! = i) ∧ PermIn 0 n d (insertionSort lt d (B * q) b) := by
  have ht : ∀ x y, B * q ≤ x → x < y → y < b → d[x]! < d[y]! := fun x y hx hxy hy => by rw [hid x hx (by omega), hid y (by omega) (by omega)]; exact hxy
  rw [ins_tag h (B * q) b d hq (by omega) ht]
  have h2 := insertionSort_holds (swo_ltT h) d (B * q) b hq (by omega)
  refine ⟨blk_more (lo' := 0) hB hb hq hbq (by omega) h2.1 (fun i hi hib => ?_) h2.2, by rw [h2.1.1, hsz], fun i hi hin => ?_, permIn_mono _ _ _ _ _ _ (Nat.zero_le _) hbn (by omega) h2.1⟩
  · rw [hid i hi (by omega), div_blk hB]; omega
  · rw [h2.1.2.1 i (.inr hi)]; exact hid i (by omega) hin
theorem blk_end (h : SWO lt) {B n : Nat} {d : Array Nat} (hB : n ≤ B) (hb : Blk lt B 0 n d) (hp : PermIn 0 n (Array.range n) d) : d = stab lt n := by
  refine stab_of h hp ?_
  intro i j _ hij hj
  exact (hb i (Nat.zero_le _) (by omega)).2 j hij hj (by rw [Nat.div_eq_of_lt (by omega), Nat.div_eq_of_lt (by omega)])
end Go.Proofs.YteoljiclmhmbnaaDoor.St

/-
  slices.SortStableFunc at pub-kaeriten/pub/kagomedict/dict.UserDicRecord: what the walks ask of a program's types; the walks of swapRangeCmpFunc and rotateCmpFunc (printed by gen_stab.py).
-/
set_option linter.unusedVariables false
set_option linter.unusedSimpArgs false
namespace Go.Proofs.YteoljiclmhmbnaaDoor.Sr1
open Go.Shelf Go.RowKit Go.Lib Go.Sort Go.Proofs Go.Proofs.YteoljiclmhmbnaaDoor.St

/-- A program that bears the sort's bodies, at an element of k cells. -/
structure Lays (P : Program) (k : Nat) : Prop where
  mixed : P.follows .mixedOrders = true
  t0 : P.underlying 0 = some (TypeDesc.tuple #[])
  a0 : ∀ w, (isAgg 0).run P w = .ok false w
  z0 : ∀ w, (Go.sizeOf 0).run P w = .ok 1 w
  v0 : ∀ w, (zeroValue 0).run P w = .ok (Value.tuple #[]) w
  tI : P.underlying 3 = some (TypeDesc.int IntKind.i64)
  aI : ∀ w, (isAgg 3).run P w = .ok false w
  zI : ∀ w, (Go.sizeOf 3).run P w = .ok 1 w
  vI : ∀ w, (zeroValue 3).run P w = .ok (Value.int IntKind.i64 0) w
  tB : P.underlying 4 = some (TypeDesc.bool)
  aB : ∀ w, (isAgg 4).run P w = .ok false w
  zB : ∀ w, (Go.sizeOf 4).run P w = .ok 1 w
  vB : ∀ w, (zeroValue 4).run P w = .ok (Value.bool false) w
  tS : P.underlying 83 = some (TypeDesc.slice 146)
  aS : ∀ w, (isAgg 83).run P w = .ok false w
  zS : ∀ w, (Go.sizeOf 83).run P w = .ok 1 w
  vS : ∀ w, (zeroValue 83).run P w = .ok (Value.slice none 0 0) w
  tF : P.underlying 149 = some (TypeDesc.func #[146, 146] #[3] false)
  aF : ∀ w, (isAgg 149).run P w = .ok false w
  zF : ∀ w, (Go.sizeOf 149).run P w = .ok 1 w
  vF : ∀ w, (zeroValue 149).run P w = .ok (Value.nilFunc) w
  tU : P.underlying 230 = some (TypeDesc.int IntKind.u64)
  aU : ∀ w, (isAgg 230).run P w = .ok false w
  zU : ∀ w, (Go.sizeOf 230).run P w = .ok 1 w
  vU : ∀ w, (zeroValue 230).run P w = .ok (Value.int IntKind.u64 0) w
  aE : ∀ w, (isAgg 146).run P w = .ok true w
  zE : ∀ w, (Go.sizeOf 146).run P w = .ok k w
  fs : P.funcs[155]? = some Tryd.f155
  fr : P.funcs[127]? = some Tryd.f127
  fm : P.funcs[102]? = some Tryd.f102
  fi : P.funcs[101]? = some Tryd.f101
  ft : P.funcs[77]? = some Tryd.f77

theorem lays : Lays Tryd.prog 4 where
  mixed := by kernel_rfl
  t0 := Tryd.underlying0
  a0 := Tryd.isAgg0
  z0 := Tryd.sizeOf0
  v0 := Tryd.zeroValue0
  tI := Tryd.underlying3
  aI := Tryd.isAgg3
  zI := Tryd.sizeOf3
  vI := Tryd.zeroValue3
  tB := Tryd.underlying4
  aB := Tryd.isAgg4
  zB := Tryd.sizeOf4
  vB := Tryd.zeroValue4
  tS := Tryd.underlying83
  aS := Tryd.isAgg83
  zS := Tryd.sizeOf83
  vS := Tryd.zeroValue83
  tF := Tryd.underlying149
  aF := Tryd.isAgg149
  zF := Tryd.sizeOf149
  vF := Tryd.zeroValue149
  tU := Tryd.underlying230
  aU := Tryd.isAgg230
  zU := Tryd.sizeOf230
  vU := Tryd.zeroValue230
  aE := Tryd.isAgg146
  zE := Tryd.sizeOf146
  fs := Tryd.func155
  fr := Tryd.func127
  fm := Tryd.func102
  fi := Tryd.func101
  ft := Tryd.func77

variable {P : Program} {k : Nat}
theorem es (L : Lays P k) : Enters P 155 := Bears.enters (B := Tryd.f155) ⟨_, by decide, L.fs⟩ rfl
theorem er (L : Lays P k) : Enters P 127 := Bears.enters (B := Tryd.f127) ⟨_, by decide, L.fr⟩ rfl
theorem em (L : Lays P k) : Enters P 102 := Bears.enters (B := Tryd.f102) ⟨_, by decide, L.fm⟩ rfl
theorem ei (L : Lays P k) : Enters P 101 := Bears.enters (B := Tryd.f101) ⟨_, by decide, L.fi⟩ rfl
theorem et (L : Lays P k) : Enters P 77 := Bears.enters (B := Tryd.f77) ⟨_, by decide, L.ft⟩ rfl

set_option maxHeartbeats 4000000 in
set_option maxRecDepth 100000 in
theorem swapRange_any (L : Lays P k) (enc : Nat → List Value) (blk off cap a b n : Nat) (d0 d : Array Nat) (w0 w : World) (fv : Value)
    (R : RowK enc k w0 blk off d0) (N : Nat) (h0 : d0.size = N) (hs : d.size = N) (S : SWK enc k w0 blk off d w) (hab : a + n ≤ b) (hb : b + n ≤ N) (hsz : N < 4611686018427387904) :
    Calls P 155 #[.slice (some ⟨blk, off, none⟩) N cap, .int .i64 a, .int .i64 b, .int .i64 n, fv] w fun e w' =>
      e = .returned (.tuple #[]) ∧ ∃ d', SWK enc k w0 blk off d' w' ∧ SwOf a b n d d' ∧ ∀ lo hi, lo ≤ a → b + n ≤ hi → hi ≤ N → PermIn lo hi d d' := by
  have mixed := L.mixed; have t0 := L.t0; have a0 := L.a0; have z0 := L.z0; have v0 := L.v0; have tI := L.tI; have aI := L.aI; have zI := L.zI; have vI := L.vI; have tB := L.tB; have aB := L.aB; have zB := L.zB; have vB := L.vB; have tS := L.tS; have aS := L.aS; have zS := L.zS; have vS := L.vS; have tF := L.tF; have aF := L.aF; have zF := L.zF; have vF := L.vF; have tU := L.tU; have aU := L.aU; have zU := L.zU; have vU := L.vU; have aE := L.aE; have zE := L.zE
  have S0 : Aside (SWK enc k w0 blk off d w) := S
  clear S
  go_enter L.fs, Tryd.ntmps155
  go_wp2
  go_loopg [10] n (fun kx s8 wr => ∃ (i : Nat) (dk : Array Nat), s8 = .int .i64 i ∧ i ≤ n ∧ n - i ≤ kx ∧
    dk.size = N ∧ Aside (SWK enc k w0 blk off dk wr) ∧ Hid (SwOf a b i d dk) ∧ Hid (∀ lo hi, lo ≤ a → b + n ≤ hi → hi ≤ N → PermIn lo hi d dk))
  case atStart => exact ⟨0, d, rfl, by omega, by omega, hs, S0, sw_zero _ _ _, fun _ _ _ _ _ => permIn_refl _ _ _⟩
  case round =>
    clear S0
    obtain ⟨i, dk, rfl, hin, hkx, hds, S1, HS, HP⟩ := hrel
    by_cases hlt : i < n
    · have hltz : (i : Int) < (n : Int) := by omega
      have ea44 : ((a : Int) + (i : Int)).toNat = a + i := by omega
      have pa44 : (0 : Int) ≤ (a : Int) + (i : Int) := by omega
      have ba44 : (a : Int) + (i : Int) < (N : Int) := by omega
      have ra44 : IntKind.i64.wrap ((a : Int) + (i : Int)) = (a : Int) + (i : Int) := by rw [IntKind.wrap_i64]; omega
      have ec44 : ((b : Int) + (i : Int)).toNat = b + i := by omega
      have pc44 : (0 : Int) ≤ (b : Int) + (i : Int) := by omega
      have bc44 : (b : Int) + (i : Int) < (N : Int) := by omega
      have rc44 : IntKind.i64.wrap ((b : Int) + (i : Int)) = (b : Int) + (i : Int) := by rw [IntKind.wrap_i64]; omega
      have S2 : Aside (SWK enc k w0 blk off (swp dk (a + i) (b + i)) ((wr.drew.setCells blk (off + (a + i) * k) (enc dk[b + i]!)).setCells blk (off + (b + i) * k) (enc dk[a + i]!))) := S1.out.swapped R (a + i) (b + i) (by omega) (by omega)
      have l44a := S1.out.ld1 R (by omega) P (a + i) (by omega)
      have l44b := S1.out.ld1 R (by omega) P (b + i) (by omega)
      have s44a := S1.out.st1 R (by omega) P (a + i) (by omega) dk[b + i]!
      have s44b := S1.out.st2 R (by omega) P (a + i) (b + i) (by omega) (by omega) dk[b + i]! dk[a + i]!
      have n44a : (enc dk[a + i]!).length = k := R.hk _
      have n44b : (enc dk[b + i]!).length = k := R.hk _
      generalize enc dk[a + i]! = cI44 at S2 l44a s44b n44a
      generalize enc dk[b + i]! = cJ44 at S2 l44b s44a s44b n44b
      clear S1
      go_wp2_with fail
      go_big_region_o
      clear l44a l44b s44a s44b
      generalize (wr.drew.setCells blk (off + (a + i) * k) cJ44).setCells blk (off + (b + i) * k) cI44 = w2 at S2 ⊢
      go_wp2
      go_roundg (n - (i + 1))
      case measure => omega
      case rel =>
        exact ⟨i + 1, swp dk (a + i) (b + i), by go_num, by omega, by omega, by rw [size_swp]; exact hds, S2, sw_step HS.out (by omega) (by omega), fun lo hi h1 h2 h3 => permIn_trans _ _ _ _ _ (HP.out lo hi h1 h2 h3) (swp_permIn _ _ _ _ _ (by omega) (by omega) (by omega) (by omega) (by omega))⟩
    · have hltz : ¬ (i : Int) < (n : Int) := by omega
      go_wp2
      go_end0
      obtain rfl : i = n := by omega
      exact ⟨rfl, dk, S1.out, HS.out, HP.out⟩

set_option maxHeartbeats 4000000 in
set_option maxRecDepth 100000 in
theorem rotate_any (L : Lays P k) (enc : Nat → List Value) (blk off cap a m b : Nat) (d0 d : Array Nat) (w0 w : World) (fv : Value)
    (R : RowK enc k w0 blk off d0) (N : Nat) (h0 : d0.size = N) (hs : d.size = N) (S : SWK enc k w0 blk off d w) (ham : a < m) (hmb : m < b) (hb : b ≤ N) (hsz : N < 4611686018427387904) :
    Calls P 127 #[.slice (some ⟨blk, off, none⟩) N cap, .int .i64 a, .int .i64 m, .int .i64 b, fv] w fun e w' =>
      e = .returned (.tuple #[]) ∧ ∃ d', SWK enc k w0 blk off d' w' ∧ RotOf a m b d d' ∧ PermIn a b d d' := by
  have mixed := L.mixed; have t0 := L.t0; have a0 := L.a0; have z0 := L.z0; have v0 := L.v0; have tI := L.tI; have aI := L.aI; have zI := L.zI; have vI := L.vI; have tB := L.tB; have aB := L.aB; have zB := L.zB; have vB := L.vB; have tS := L.tS; have aS := L.aS; have zS := L.zS; have vS := L.vS; have tF := L.tF; have aF := L.aF; have zF := L.zF; have vF := L.vF; have tU := L.tU; have aU := L.aU; have zU := L.zU; have vU := L.vU; have aE := L.aE; have zE := L.zE
  have S0 : Aside (SWK enc k w0 blk off d w) := S
  clear S
  have eS : ∀ args w, (callFunc 155 args).run P w = .ok (.enter 155 args) w := es L
  go_enter L.fr, Tryd.ntmps127
  go_wp2
  go_loopg [10, 11] (b - a) (fun kx s8 s9 wr => ∃ (i j : Nat) (dk : Array Nat), s8 = .int .i64 i ∧ s9 = .int .i64 j ∧ 0 < i ∧ 0 < j ∧ i ≤ m - a ∧ j ≤ b - m ∧ i + j ≤ kx + 1 ∧
    dk.size = N ∧ Aside (SWK enc k w0 blk off dk wr) ∧ Hid (Lf a m b i j d dk) ∧ Hid (PermIn a b d dk))
  case atStart => exact ⟨m - a, b - m, d, by go_num, by go_num, by omega, by omega, by omega, by omega, by omega, hs, S0, left_start (by omega) (by omega), permIn_refl _ _ _⟩
  case round =>
    clear S0
    obtain ⟨i, j, dk, rfl, rfl, hi0, hj0, him, hjm, hkx, hds, S1, HL, HP⟩ := hrel
    have q1 : (m : Int) - (i : Int) = ((m - i : Nat) : Int) := by omega
    have q2 : (m : Int) + (j : Int) - (i : Int) = ((m + j - i : Nat) : Int) := by omega
    have hrn : ((b - a : Nat) : Int) ≤ 4611686018427387904 := by omega
    by_cases hne : i = j
    · subst hne
      have ht : ((i : Int) != (i : Int)) = false := by simp
      go_wp2_with fail
      refine (swapRange_any L enc blk off cap (m - i) m i d0 dk w0 wr fv R N h0 hds S1.out (by omega) (by omega) hsz).mono ?_
      rintro e w' ⟨rfl, d', S', hsw, hpm⟩
      go_wp2
      go_end0
      exact ⟨rfl, d', S', left_eq HL.out (by omega) hsw, permIn_trans _ _ _ _ _ HP.out (hpm a b (by omega) (by omega) (by omega))⟩
    · have ht : ((i : Int) != (j : Int)) = true := by rw [bne_iff_ne]; omega
      by_cases hgt : j < i
      · have hg : (j : Int) < (i : Int) := by omega
        go_wp2_with fail
        refine (swapRange_any L enc blk off cap (m - i) m j d0 dk w0 wr fv R N h0 hds S1.out (by omega) (by omega) hsz).mono ?_
        rintro e w' ⟨rfl, d', S', hsw, hpm⟩
        go_wp2
        go_roundg (i - j + j - 1)
        case measure => omega
        case rel =>
          exact ⟨i - j, j, d', by go_num, rfl, by omega, hj0, by omega, hjm, by omega, by rw [hsw.1]; exact hds, S', left_gt HL.out hgt (by omega) hsw, permIn_trans _ _ _ _ _ HP.out (hpm a b (by omega) (by omega) (by omega))⟩
      · have hg : ¬ (j : Int) < (i : Int) := by omega
        go_wp2_with fail
        refine (swapRange_any L enc blk off cap (m - i) (m + j - i) i d0 dk w0 wr fv R N h0 hds S1.out (by omega) (by omega) hsz).mono ?_
        rintro e w' ⟨rfl, d', S', hsw, hpm⟩
        go_wp2
        go_roundg (i + (j - i) - 1)
        case measure => omega
        case rel =>
          exact ⟨i, j - i, d', rfl, by go_num, hi0, by omega, him, by omega, by omega, by rw [hsw.1]; exact hds, S', left_lt HL.out (by omega) (by omega) hsw, permIn_trans _ _ _ _ _ HP.out (hpm a b (by omega) (by omega) (by omega))⟩
end Go.Proofs.YteoljiclmhmbnaaDoor.Sr1

/-
  slices.SortStableFunc at pub-kaeriten/pub/kagomedict/dict.UserDicRecord: the walk of symMergeCmpFunc (printed by gen_stab.py).
-/
set_option linter.unusedVariables false
set_option linter.unusedSimpArgs false
namespace Go.Proofs.YteoljiclmhmbnaaDoor.Sr1
open Go.Shelf Go.RowKit Go.Lib Go.Sort Go.Proofs Go.Proofs.YteoljiclmhmbnaaDoor.St

variable {P : Program} {k : Nat}

set_option maxHeartbeats 8000000 in
set_option maxRecDepth 100000 in
theorem symM1 (L : Lays P k) (enc : Nat → List Value) (cf : Nat → Nat → Int) (g : Nat) (cb : Array Value) (hO : SWO (ltOf cf)) (blk off cap : Nat) (d0 : Array Nat) (w0 : World)
    (eg : ∀ args w, (callFunc g args).run P w = .ok (.enter g args) w) (hcmp : CmpLays P g cb enc k cf blk off d0.size w0) (R : RowK enc k w0 blk off d0) (N : Nat) (h0 : d0.size = N) (hsz : N < 4611686018427387904)
    (a m b : Nat) (d : Array Nat) (w : World) (hs : d.size = N) (S0 : SWK enc k w0 blk off d w) (hb : b ≤ N) (HM0 : Mp (ltOf cf) a m b d) (hm1 : m = a + 1) :
    Calls P 102 #[.slice (some ⟨blk, off, none⟩) N cap, .int .i64 a, .int .i64 m, .int .i64 b, .func (.func g) #[] cb] w fun e w' =>
      e = .returned (.tuple #[]) ∧ ∃ d', SWK enc k w0 blk off d' w' ∧ Post (ltOf cf) a b d d' := by
  have mixed := L.mixed; have t0 := L.t0; have a0 := L.a0; have z0 := L.z0; have v0 := L.v0; have tI := L.tI; have aI := L.aI; have zI := L.zI; have vI := L.vI; have tB := L.tB; have aB := L.aB; have zB := L.zB; have vB := L.vB; have tS := L.tS; have aS := L.aS; have zS := L.zS; have vS := L.vS; have tF := L.tF; have aF := L.aF; have zF := L.zF; have vF := L.vF; have tU := L.tU; have aU := L.aU; have zU := L.zU; have vU := L.vU; have aE := L.aE; have zE := L.zE
  have eM : ∀ args w, (callFunc 102 args).run P w = .ok (.enter 102 args) w := em L
  have eR : ∀ args w, (callFunc 127 args).run P w = .ok (.enter 127 args) w := er L
  have HC : Aside _ := hcmp
  clear hcmp
  have ham := HM0.am
  have hmb := HM0.mb
  have S1 : Aside (SWK enc k w0 blk off d w) := S0
  have HM : Hid (Mp (ltOf cf) a m b d) := HM0
  clear S0 HM0
  subst hm1
  have ht : (((a + 1 : Nat) : Int) - (a : Int) == 1) = true := by rw [beq_iff_eq]; omega
  have ht' : ((a : Int) + 1 - (a : Int) == 1) = true := by rw [beq_iff_eq]; omega
  go_enter L.fm, Tryd.ntmps102
  go_wp2
  go_loopg [10, 11] (b - a) (fun kx si sj wr => ∃ (i j : Nat), si = .int .i64 i ∧ sj = .int .i64 j ∧ a + 1 ≤ i ∧ i ≤ j ∧ j ≤ b ∧ j - i ≤ kx ∧ Aside (SWK enc k w0 blk off d wr) ∧
    Hid (∀ x, a + 1 ≤ x → x < i → ltOf cf d[x]! d[a]! = true) ∧ Hid (∀ x, j ≤ x → x < b → ltOf cf d[x]! d[a]! = false))
  case atStart => exact ⟨a + 1, b, by go_num, rfl, Nat.le_refl _, by omega, Nat.le_refl _, by omega, S1, fun x h1 h2 => by omega, fun x h1 h2 => by omega⟩
  case round =>
    clear S1
    obtain ⟨i, j, rfl, rfl, hai, hij, hjb, hkx, S1, H1, H2⟩ := hrel
    by_cases hlt : i < j
    · have hltz : (i : Int) < (j : Int) := by omega
      obtain ⟨h, hh⟩ : ∃ h, h = (i + j) / 2 := ⟨_, rfl⟩
      have hih : i ≤ h := by omega
      have hhj : h < j := by omega
      have hz : ((i : Int) + (j : Int)) / 2 = (h : Int) := by omega
      have bh : (h : Int) < (N : Int) := by omega
      have ba : (a : Int) < (N : Int) := by omega
      clear hh
      obtain ⟨x1, hx1⟩ : ∃ x, x = d[h]! := ⟨_, rfl⟩
      obtain ⟨y1, hy1⟩ : ∃ x, x = d[a]! := ⟨_, rfl⟩
      have l1a := S1.out.ld R (by omega) P (h) (by omega)
      have l1b := S1.out.ld R (by omega) P (a) (by omega)
      rw [← hx1] at l1a
      rw [← hy1] at l1b
      have hc1 := S1.out.cmp HC.out (by omega) x1 y1
      obtain ⟨bv, hd1⟩ : ∃ bv, decide (cf x1 y1 < 0) = bv := ⟨_, rfl⟩
      have HV : Hid (ltOf cf d[h]! d[a]! = bv) := by rw [← hx1, ← hy1]; exact hd1
      clear hx1 hy1
      go_wp2_with fail
      go_quiet_grown (first | (go_at_fn g; refine Calls.grown_of (hc1 _ _)))
      have S2 : Aside (SWK enc k w0 blk off d (grow (wr.drewN nq) osq)) := S1.out.grown nq osq
      clear l1a l1b hc1 hd1 S1
      generalize grow (wr.drewN nq) osq = w2 at S2 ⊢
      clear nq osq
      cases bv with
      | true =>
        go_wp2
        go_roundg (j - (h + 1))
        case measure => omega
        case rel => exact ⟨h + 1, j, by go_num, rfl, by omega, by omega, hjb, by omega, S2, fun x h1 h2 => HM.out.mono hO (Nat.le_refl a) (Nat.le_refl a) (by omega) h1 (show x ≤ h by omega) (by omega) HV.out, H2.out⟩
      | false =>
        go_wp2
        go_roundg (h - i)
        case measure => omega
        case rel => exact ⟨i, h, rfl, rfl, hai, by omega, by omega, by omega, S2, H1.out, fun x h1 h2 => HM.out.mono' hO (Nat.le_refl a) (Nat.le_refl a) (by omega) (by omega) h1 h2 HV.out⟩
    · have hltz : ¬ (i : Int) < (j : Int) := by omega
      obtain rfl : i = j := by omega
      clear hlt hij
      go_wp2
      go_loopg [13] (i - a) (fun kx sk wr2 => ∃ (kk : Nat) (dk : Array Nat), sk = .int .i64 kk ∧ a ≤ kk ∧ kk + 1 ≤ i ∧ i - 1 - kk ≤ kx ∧ dk.size = N ∧ Aside (SWK enc k w0 blk off dk wr2) ∧ Hid (RotOf a (a + 1) (kk + 1) d dk) ∧ Hid (PermIn a b d dk))
      case atStart => exact ⟨a, d, rfl, Nat.le_refl _, hai, by omega, hs, S1, rot_nil_right a (a + 1) d, permIn_refl _ _ _⟩
      case round =>
        clear S1
        obtain ⟨kk, dk, rfl, hk1, hk2, hkx2, hds, S1, HR, HP⟩ := hrel
        by_cases hlt2 : kk + 1 < i
        · have z : (kk : Int) < (i : Int) - 1 := by omega
          have ea1 : ((kk : Int) + 1).toNat = kk + 1 := by omega
          have pa1 : (0 : Int) ≤ (kk : Int) + 1 := by omega
          have ba1 : (kk : Int) + 1 < (N : Int) := by omega
          have bk1 : (kk : Int) < (N : Int) := by omega
          have ra1 : IntKind.i64.wrap ((kk : Int) + 1) = (kk : Int) + 1 := by rw [IntKind.wrap_i64]; omega
          have hdl : d.size = N := hs
          have S2 : Aside (SWK enc k w0 blk off (swp dk (kk) (kk + 1)) ((wr.drew.setCells blk (off + (kk) * k) (enc dk[kk + 1]!)).setCells blk (off + (kk + 1) * k) (enc dk[kk]!))) := S1.out.swapped R (kk) (kk + 1) (by omega) (by omega)
          have l44a := S1.out.ld1 R (by omega) P (kk) (by omega)
          have l44b := S1.out.ld1 R (by omega) P (kk + 1) (by omega)
          have s44a := S1.out.st1 R (by omega) P (kk) (by omega) dk[kk + 1]!
          have s44b := S1.out.st2 R (by omega) P (kk) (kk + 1) (by omega) (by omega) dk[kk + 1]! dk[kk]!
          have n44a : (enc dk[kk]!).length = k := R.hk _
          have n44b : (enc dk[kk + 1]!).length = k := R.hk _
          generalize enc dk[kk]! = cI44 at S2 l44a s44b n44a
          generalize enc dk[kk + 1]! = cJ44 at S2 l44b s44a s44b n44b
          clear S1
          go_wp2_with fail
          go_big_region_o
          clear l44a l44b s44a s44b
          generalize (wr.drew.setCells blk (off + (kk) * k) cJ44).setCells blk (off + (kk + 1) * k) cI44 = w2 at S2 ⊢
          go_wp2
          go_roundg (i - 1 - (kk + 1))
          case measure => omega
          case rel => exact ⟨kk + 1, swp dk kk (kk + 1), by go_num, by omega, by omega, by omega, by rw [size_swp]; exact hds, S2, rot_step_right HR.out hk1 (by omega), permIn_trans _ _ _ _ _ HP.out (swp_permIn _ _ _ _ _ (by omega) (by omega) (by omega) (by omega) (by omega))⟩
        · have z : ¬ (kk : Int) < (i : Int) - 1 := by omega
          obtain rfl : kk + 1 = i := by omega
          go_wp2
          (try simp only [Exit.inBlock, Exit.then]); refine bodyPost_ret (results_none rfl _ _ _) rfl ?_
          exact ⟨rfl, dk, S1.out, HP.out, one_left hO HM.out hai hjb H1.out H2.out HR.out⟩

set_option maxHeartbeats 8000000 in
set_option maxRecDepth 100000 in
theorem symM2 (L : Lays P k) (enc : Nat → List Value) (cf : Nat → Nat → Int) (g : Nat) (cb : Array Value) (hO : SWO (ltOf cf)) (blk off cap : Nat) (d0 : Array Nat) (w0 : World)
    (eg : ∀ args w, (callFunc g args).run P w = .ok (.enter g args) w) (hcmp : CmpLays P g cb enc k cf blk off d0.size w0) (R : RowK enc k w0 blk off d0) (N : Nat) (h0 : d0.size = N) (hsz : N < 4611686018427387904)
    (a m b : Nat) (d : Array Nat) (w : World) (hs : d.size = N) (S0 : SWK enc k w0 blk off d w) (hb : b ≤ N) (HM0 : Mp (ltOf cf) a m b d) (hm1 : ¬ m = a + 1) (hb1 : b = m + 1) :
    Calls P 102 #[.slice (some ⟨blk, off, none⟩) N cap, .int .i64 a, .int .i64 m, .int .i64 b, .func (.func g) #[] cb] w fun e w' =>
      e = .returned (.tuple #[]) ∧ ∃ d', SWK enc k w0 blk off d' w' ∧ Post (ltOf cf) a b d d' := by
  have mixed := L.mixed; have t0 := L.t0; have a0 := L.a0; have z0 := L.z0; have v0 := L.v0; have tI := L.tI; have aI := L.aI; have zI := L.zI; have vI := L.vI; have tB := L.tB; have aB := L.aB; have zB := L.zB; have vB := L.vB; have tS := L.tS; have aS := L.aS; have zS := L.zS; have vS := L.vS; have tF := L.tF; have aF := L.aF; have zF := L.zF; have vF := L.vF; have tU := L.tU; have aU := L.aU; have zU := L.zU; have vU := L.vU; have aE := L.aE; have zE := L.zE
  have eM : ∀ args w, (callFunc 102 args).run P w = .ok (.enter 102 args) w := em L
  have eR : ∀ args w, (callFunc 127 args).run P w = .ok (.enter 127 args) w := er L
  have HC : Aside _ := hcmp
  clear hcmp
  have ham := HM0.am
  have hmb := HM0.mb
  have S1 : Aside (SWK enc k w0 blk off d w) := S0
  have HM : Hid (Mp (ltOf cf) a m b d) := HM0
  clear S0 HM0
  subst hb1
  have hta : ((m : Int) - (a : Int) == 1) = false := by rw [beq_eq_false_iff_ne]; omega
  have ht : (((m + 1 : Nat) : Int) - (m : Int) == 1) = true := by rw [beq_iff_eq]; omega
  have ht' : ((m : Int) + 1 - (m : Int) == 1) = true := by rw [beq_iff_eq]; omega
  go_enter L.fm, Tryd.ntmps102
  go_wp2
  go_loopg [14, 15] (m - a) (fun kx si sj wr => ∃ (i j : Nat), si = .int .i64 i ∧ sj = .int .i64 j ∧ a ≤ i ∧ i ≤ j ∧ j ≤ m ∧ j - i ≤ kx ∧ Aside (SWK enc k w0 blk off d wr) ∧
    Hid (∀ x, a ≤ x → x < i → ltOf cf d[m]! d[x]! = false) ∧ Hid (∀ x, j ≤ x → x < m → ltOf cf d[m]! d[x]! = true))
  case atStart => exact ⟨a, m, rfl, rfl, Nat.le_refl _, by omega, Nat.le_refl _, by omega, S1, fun x h1 h2 => by omega, fun x h1 h2 => by omega⟩
  case round =>
    clear S1
    obtain ⟨i, j, rfl, rfl, hai, hij, hjb, hkx, S1, H1, H2⟩ := hrel
    by_cases hlt : i < j
    · have hltz : (i : Int) < (j : Int) := by omega
      obtain ⟨h, hh⟩ : ∃ h, h = (i + j) / 2 := ⟨_, rfl⟩
      have hih : i ≤ h := by omega
      have hhj : h < j := by omega
      have hz : ((i : Int) + (j : Int)) / 2 = (h : Int) := by omega
      have bh : (h : Int) < (N : Int) := by omega
      have bm : (m : Int) < (N : Int) := by omega
      clear hh
      obtain ⟨x1, hx1⟩ : ∃ x, x = d[m]! := ⟨_, rfl⟩
      obtain ⟨y1, hy1⟩ : ∃ x, x = d[h]! := ⟨_, rfl⟩
      have l1a := S1.out.ld R (by omega) P (m) (by omega)
      have l1b := S1.out.ld R (by omega) P (h) (by omega)
      rw [← hx1] at l1a
      rw [← hy1] at l1b
      have hc1 := S1.out.cmp HC.out (by omega) x1 y1
      obtain ⟨bv, hd1⟩ : ∃ bv, decide (cf x1 y1 < 0) = bv := ⟨_, rfl⟩
      have HV : Hid (ltOf cf d[m]! d[h]! = bv) := by rw [← hx1, ← hy1]; exact hd1
      clear hx1 hy1
      go_wp2_with fail
      go_quiet_grown (first | (go_at_fn g; refine Calls.grown_of (hc1 _ _)))
      have S2 : Aside (SWK enc k w0 blk off d (grow (wr.drewN nq) osq)) := S1.out.grown nq osq
      clear l1a l1b hc1 hd1 S1
      generalize grow (wr.drewN nq) osq = w2 at S2 ⊢
      clear nq osq
      cases bv with
      | true =>
        go_wp2
        go_roundg (h - i)
        case measure => omega
        case rel => exact ⟨i, h, rfl, rfl, hai, by omega, by omega, by omega, S2, H1.out, fun x h1 h2 => HM.out.mono hO (show a ≤ h by omega) h1 h2 (Nat.le_refl m) (Nat.le_refl m) (by omega) HV.out⟩
      | false =>
        go_wp2
        go_roundg (j - (h + 1))
        case measure => omega
        case rel => exact ⟨h + 1, j, by go_num, rfl, by omega, by omega, hjb, by omega, S2, fun x h1 h2 => HM.out.mono' hO h1 (show x ≤ h by omega) (by omega) (Nat.le_refl m) (Nat.le_refl m) (by omega) HV.out, H2.out⟩
    · have hltz : ¬ (i : Int) < (j : Int) := by omega
      obtain rfl : i = j := by omega
      clear hlt hij
      go_wp2
      go_loopg [17] (m - i) (fun kx sk wr2 => ∃ (kk : Nat) (dk : Array Nat), sk = .int .i64 kk ∧ i ≤ kk ∧ kk ≤ m ∧ kk - i ≤ kx ∧ dk.size = N ∧ Aside (SWK enc k w0 blk off dk wr2) ∧ Hid (RotOf kk m (m + 1) d dk) ∧ Hid (PermIn a (m + 1) d dk))
      case atStart => exact ⟨m, d, rfl, hjb, Nat.le_refl _, Nat.le_refl _, hs, S1, rot_nil_left m (m + 1) d, permIn_refl _ _ _⟩
      case round =>
        clear S1
        obtain ⟨kk, dk, rfl, hk1, hk2, hkx2, hds, S1, HR, HP⟩ := hrel
        by_cases hlt2 : i < kk
        · have z : (i : Int) < (kk : Int) := by omega
          obtain ⟨kp, rfl⟩ : ∃ kp, kk = kp + 1 := ⟨kk - 1, by omega⟩
          have hwp : IntKind.i64.wrap (kp : Int) = (kp : Int) := by rw [IntKind.wrap_i64]; omega
          have z' : (i : Int) < (kp : Int) + 1 := by omega
          have jz : (kp : Int) + 1 < (N : Int) := by omega
          have jz1 : (kp : Int) < (N : Int) := by omega
          have p0 : (0 : Int) ≤ (kp : Int) + 1 := by omega
          have e0 : ((kp : Int) + 1).toNat = kp + 1 := by omega
          have hdl : d.size = N := hs
          have S2 : Aside (SWK enc k w0 blk off (swp dk (kp + 1) (kp)) ((wr.drew.setCells blk (off + (kp + 1) * k) (enc dk[kp]!)).setCells blk (off + (kp) * k) (enc dk[kp + 1]!))) := S1.out.swapped R (kp + 1) (kp) (by omega) (by omega)
          have l44a := S1.out.ld1 R (by omega) P (kp + 1) (by omega)
          have l44b := S1.out.ld1 R (by omega) P (kp) (by omega)
          have s44a := S1.out.st1 R (by omega) P (kp + 1) (by omega) dk[kp]!
          have s44b := S1.out.st2 R (by omega) P (kp + 1) (kp) (by omega) (by omega) dk[kp]! dk[kp + 1]!
          have n44a : (enc dk[kp + 1]!).length = k := R.hk _
          have n44b : (enc dk[kp]!).length = k := R.hk _
          generalize enc dk[kp + 1]! = cI44 at S2 l44a s44b n44a
          generalize enc dk[kp]! = cJ44 at S2 l44b s44a s44b n44b
          clear S1
          go_wp2_with fail
          go_big_region_o
          clear l44a l44b s44a s44b
          generalize (wr.drew.setCells blk (off + (kp + 1) * k) cJ44).setCells blk (off + (kp) * k) cI44 = w2 at S2 ⊢
          go_wp2
          go_roundg (kp - i)
          case measure => omega
          case rel => exact ⟨kp, swp dk (kp + 1) kp, by go_num, by omega, by omega, by omega, by rw [size_swp]; exact hds, S2, rot_step_left HR.out hk2 (by omega), permIn_trans _ _ _ _ _ HP.out (swp_permIn _ _ _ _ _ (by omega) (by omega) (by omega) (by omega) (by omega))⟩
        · have z : ¬ (i : Int) < (kk : Int) := by omega
          obtain rfl : kk = i := by omega
          go_wp2
          (try simp only [Exit.inBlock, Exit.then]); refine bodyPost_ret (results_none rfl _ _ _) rfl ?_
          exact ⟨rfl, dk, S1.out, HP.out, one_right hO HM.out hai hjb H1.out H2.out HR.out⟩

set_option maxHeartbeats 8000000 in
set_option maxRecDepth 100000 in
theorem symM3 (L : Lays P k) (enc : Nat → List Value) (cf : Nat → Nat → Int) (g : Nat) (cb : Array Value) (hO : SWO (ltOf cf)) (blk off cap : Nat) (d0 : Array Nat) (w0 : World)
    (eg : ∀ args w, (callFunc g args).run P w = .ok (.enter g args) w) (hcmp : CmpLays P g cb enc k cf blk off d0.size w0) (R : RowK enc k w0 blk off d0) (N : Nat) (h0 : d0.size = N) (hsz : N < 4611686018427387904)
    (a m b : Nat) (d : Array Nat) (w : World) (hs : d.size = N) (S0 : SWK enc k w0 blk off d w) (hb : b ≤ N) (HM0 : Mp (ltOf cf) a m b d) (hm1 : ¬ m = a + 1) (hb1 : ¬ b = m + 1)
    (ih : ∀ (a' m' b' : Nat) (d : Array Nat) (w : World), b' - a' < b - a → d.size = N → SWK enc k w0 blk off d w → b' ≤ N → Mp (ltOf cf) a' m' b' d →
      Calls P 102 #[.slice (some ⟨blk, off, none⟩) N cap, .int .i64 a', .int .i64 m', .int .i64 b', .func (.func g) #[] cb] w fun e w' =>
        e = .returned (.tuple #[]) ∧ ∃ d', SWK enc k w0 blk off d' w' ∧ Post (ltOf cf) a' b' d d') :
    Calls P 102 #[.slice (some ⟨blk, off, none⟩) N cap, .int .i64 a, .int .i64 m, .int .i64 b, .func (.func g) #[] cb] w fun e w' =>
      e = .returned (.tuple #[]) ∧ ∃ d', SWK enc k w0 blk off d' w' ∧ Post (ltOf cf) a b d d' := by
  have mixed := L.mixed; have t0 := L.t0; have a0 := L.a0; have z0 := L.z0; have v0 := L.v0; have tI := L.tI; have aI := L.aI; have zI := L.zI; have vI := L.vI; have tB := L.tB; have aB := L.aB; have zB := L.zB; have vB := L.vB; have tS := L.tS; have aS := L.aS; have zS := L.zS; have vS := L.vS; have tF := L.tF; have aF := L.aF; have zF := L.zF; have vF := L.vF; have tU := L.tU; have aU := L.aU; have zU := L.zU; have vU := L.vU; have aE := L.aE; have zE := L.zE
  have eM : ∀ args w, (callFunc 102 args).run P w = .ok (.enter 102 args) w := em L
  have eR : ∀ args w, (callFunc 127 args).run P w = .ok (.enter 127 args) w := er L
  have HC : Aside _ := hcmp
  clear hcmp
  have ham := HM0.am
  have hmb := HM0.mb
  have S1 : Aside (SWK enc k w0 blk off d w) := S0
  have HM : Hid (Mp (ltOf cf) a m b d) := HM0
  clear S0 HM0
  have hta : ((m : Int) - (a : Int) == 1) = false := by rw [beq_eq_false_iff_ne]; omega
  have htb : ((b : Int) - (m : Int) == 1) = false := by rw [beq_eq_false_iff_ne]; omega
  obtain ⟨mid, hmid⟩ : ∃ mid, mid = (a + b) / 2 := ⟨_, rfl⟩
  have hm1' : a + 2 ≤ b := by omega
  have hmz : ((a : Int) + (b : Int)) / 2 = (mid : Int) := by omega
  have hma : 2 * mid ≤ a + b := by omega
  have hmb' : a + b ≤ 2 * mid + 1 := by omega
  clear hmid
  go_enter L.fm, Tryd.ntmps102
  go_upto_if 140 with fail
  go_cut [20, 21] from 138 to 146 (fun s r wx => ∃ s0 r0 : Nat, s = .int .i64 s0 ∧ r = .int .i64 r0 ∧ a ≤ s0 ∧ s0 ≤ r0 ∧ r0 ≤ m ∧ r0 ≤ mid ∧ mid + m ≤ b + s0 ∧ Hid (r0 = m ∨ r0 = mid) ∧ Hid (s0 = a ∨ mid + m = b + s0) ∧ w = wx)
  case first =>
    by_cases hgt : mid < m
    · have hg : (mid : Int) < (m : Int) := by omega
      go_wp2
      go_meet
      case rel => exact ⟨mid + m - b, mid, by go_num, rfl, by omega, by omega, by omega, by omega, by omega, .inr rfl, .inr (by omega), rfl⟩
    · have hg : ¬ (mid : Int) < (m : Int) := by omega
      go_wp2
      go_meet
      case rel => exact ⟨a, m, rfl, rfl, by omega, by omega, by omega, by omega, by omega, .inl rfl, .inl rfl, rfl⟩
  case rest =>
    obtain ⟨s0, r0, rfl, rfl, hs0, hsr, hrm, hrd, hnb, htop, hbot, rfl⟩ := hcut
    obtain ⟨p, hp⟩ : ∃ p, p + 1 = mid + m := ⟨mid + m - 1, by omega⟩
    have hpz : (mid : Int) + (m : Int) - 1 = (p : Int) := by omega
    go_upto_block 8 with fail
    go_cut [20, 21, 23] from 149 to 174 (fun s20 _ _ wx => ∃ i : Nat, s20 = .int .i64 i ∧ s0 ≤ i ∧ i ≤ r0 ∧ Aside (SWK enc k w0 blk off d wx) ∧
        Hid (∀ x, s0 ≤ x → x < i → ltOf cf d[p - x]! d[x]! = false) ∧ Hid (∀ x, i ≤ x → x < r0 → ltOf cf d[p - x]! d[x]! = true))
    case first =>
      go_wp2
      go_loopg [20, 21] (r0 - s0) (fun kx si sj wr => ∃ (i j : Nat), si = .int .i64 i ∧ sj = .int .i64 j ∧ s0 ≤ i ∧ i ≤ j ∧ j ≤ r0 ∧ j - i ≤ kx ∧ Aside (SWK enc k w0 blk off d wr) ∧
        Hid (∀ x, s0 ≤ x → x < i → ltOf cf d[p - x]! d[x]! = false) ∧ Hid (∀ x, j ≤ x → x < r0 → ltOf cf d[p - x]! d[x]! = true))
      case atStart => exact ⟨s0, r0, rfl, rfl, Nat.le_refl _, hsr, Nat.le_refl _, by omega, S1, fun x h1 h2 => by omega, fun x h1 h2 => by omega⟩
      case round =>
        clear S1
        obtain ⟨i, j, rfl, rfl, hai, hij, hjb, hkx, S1, H1, H2⟩ := hrel
        by_cases hlt : i < j
        · have hltz : (i : Int) < (j : Int) := by omega
          obtain ⟨h, hh⟩ : ∃ h, h = (i + j) / 2 := ⟨_, rfl⟩
          have hih : i ≤ h := by omega
          have hhj : h < j := by omega
          have hz : ((i : Int) + (j : Int)) / 2 = (h : Int) := by omega
          have bh : (h : Int) < (N : Int) := by omega
          have hhp : h ≤ p := by omega
          have hqm : m ≤ p - h := by omega
          have hqb : p - h < b := by omega
          have eq1 : ((p : Int) - (h : Int)).toNat = p - h := by omega
          have pq1 : (0 : Int) ≤ (p : Int) - (h : Int) := by omega
          have bq1 : (p : Int) - (h : Int) < (N : Int) := by omega
          have rq1 : IntKind.i64.wrap ((p : Int) - (h : Int)) = (p : Int) - (h : Int) := by rw [IntKind.wrap_i64]; omega
          clear hh
          obtain ⟨x1, hx1⟩ : ∃ x, x = d[p - h]! := ⟨_, rfl⟩
          obtain ⟨y1, hy1⟩ : ∃ x, x = d[h]! := ⟨_, rfl⟩
          have l1a := S1.out.ld R (by omega) P (p - h) (by omega)
          have l1b := S1.out.ld R (by omega) P (h) (by omega)
          rw [← hx1] at l1a
          rw [← hy1] at l1b
          have hc1 := S1.out.cmp HC.out (by omega) x1 y1
          obtain ⟨bv, hd1⟩ : ∃ bv, decide (cf x1 y1 < 0) = bv := ⟨_, rfl⟩
          have HV : Hid (ltOf cf d[p - h]! d[h]! = bv) := by rw [← hx1, ← hy1]; exact hd1
          clear hx1 hy1
          go_wp2_with fail
          go_quiet_grown (first | (go_at_fn g; refine Calls.grown_of (hc1 _ _)))
          have S2 : Aside (SWK enc k w0 blk off d (grow (wr.drewN nq) osq)) := S1.out.grown nq osq
          clear l1a l1b hc1 hd1 S1
          generalize grow (wr.drewN nq) osq = w2 at S2 ⊢
          clear nq osq
          cases bv with
          | true =>
            go_wp2
            go_roundg (h - i)
            case measure => omega
            case rel => exact ⟨i, h, rfl, rfl, hai, by omega, by omega, by omega, S2, H1.out, fun x h1 h2 => HM.out.mono hO (show a ≤ h by omega) h1 (by omega) (by omega) (show p - x ≤ p - h by omega) hqb HV.out⟩
          | false =>
            go_wp2
            go_roundg (j - (h + 1))
            case measure => omega
            case rel => exact ⟨h + 1, j, by go_num, rfl, by omega, by omega, hjb, by omega, S2, fun x h1 h2 => HM.out.mono' hO (show a ≤ x by omega) (show x ≤ h by omega) (by omega) hqm (show p - h ≤ p - x by omega) (by omega) HV.out, H2.out⟩
        · have hltz : ¬ (i : Int) < (j : Int) := by omega
          obtain rfl : i = j := by omega
          clear hlt hij
          go_wp2
          go_meet
          case rel => exact ⟨i, rfl, hai, hjb, S1, H1, H2⟩
    case rest =>
      clear S1
      obtain ⟨i, rfl, hai, hjb, S1, H1, H2⟩ := hcut
      generalize wc = wr at S1 ⊢
      obtain ⟨en, hen⟩ : ∃ en, en = mid + m - i := ⟨_, rfl⟩
      have henz : (mid : Int) + (m : Int) - (i : Int) = (en : Int) := by omega
      have hme : m ≤ en := by omega
      have heb : en ≤ b := by omega
      have hie : i + en = mid + m := by omega
      have hx : i < m → m < en → ltOf cf d[en - 1]! d[i]! = true := fun h1 h2 => by
        have htop := htop.out
        have := H2.out i (Nat.le_refl _) (by omega)
        rwa [show p - i = en - 1 by omega] at this
      have hy : a < i → en < b → ltOf cf d[en]! d[i - 1]! = false := fun h1 h2 => by
        have hbot := hbot.out
        have := H1.out (i - 1) (by omega) (by omega)
        rwa [show p - (i - 1) = en by omega] at this
      have HX : Hid _ := hx
      have HY : Hid _ := hy
      have hmd : i ≤ mid := by omega
      have hden : mid ≤ en := by omega
      clear hen hx hy H1 H2
      go_upto_region 38 with fail
      go_cut [24] from 175 to 177 (fun s24 wx => s24 = .int .i64 en ∧ wr = wx)
      case first =>
        go_wp2
        go_meet
        case rel => exact ⟨rfl, rfl⟩
      case rest =>
      obtain ⟨rfl, rfl⟩ := hcut
      refine (‹∀ (a : Act) (w : World), Code.wp P _ _ a w → _› : ∀ (a : Act) (w : World), Code.wp P _ _ a w → _) _ _ ?_
      refine wp_seq_k (fun K2 hK2 => ?_)
      go_cut [20] from 178 to 191 (fun s20 wx => ∃ d1 : Array Nat, s20 = .int .i64 i ∧ Aside (SWK enc k w0 blk off d1 wx) ∧ d1.size = N ∧ Hid (Cross (ltOf cf) a i mid en b d1) ∧ Hid (PermIn a b d d1))
      case first =>
        by_cases c1 : i < m
        · have z1 : (i : Int) < (m : Int) := by omega
          by_cases c2 : m < en
          · have z2 : (m : Int) < (en : Int) := by omega
            go_wp2_with fail
            refine (rotate_any L enc blk off cap i m en d0 d _ wr _ R N h0 hs S1.out c1 c2 (by omega) hsz).mono ?_
            rintro e w' ⟨rfl, d', S', hrot, hpm⟩
            go_wp2
            go_meet
            case rel => exact ⟨d', rfl, S', by rw [hrot.1]; exact hs, cross_of hO HM.out (by omega) (by omega) hme heb hie HX.out HY.out hrot, permIn_mono _ _ _ _ _ _ (by omega) heb (by rw [hs]; exact hb) hpm⟩
          · have z2 : ¬ (m : Int) < (en : Int) := by omega
            have e : m = en := by omega
            have hr : RotOf i m en d d := by rw [← e]; exact rot_nil_right _ _ _
            clear e
            go_wp2
            go_meet
            case rel => exact ⟨d, rfl, S1, hs, cross_of hO HM.out (by omega) (by omega) hme heb hie HX.out HY.out hr, permIn_refl _ _ _⟩
        · have z1 : ¬ (i : Int) < (m : Int) := by omega
          have e : i = m := by omega
          have hr : RotOf i m en d d := by rw [e]; exact rot_nil_left _ _ _
          clear e
          go_wp2
          go_meet
          case rel => exact ⟨d, rfl, S1, hs, cross_of hO HM.out (by omega) (by omega) hme heb hie HX.out HY.out hr, permIn_refl _ _ _⟩
      case rest =>
      obtain ⟨d1, rfl, S2, hs1, HX1, HP1⟩ := hcut
      clear S1 HX HY
      refine hK2 _ _ ?_
      clear hK2
      refine wp_seq_k (fun K3 hK3 => ?_)
      go_cut [20] from 192 to 205 (fun s20 wx => ∃ d2 : Array Nat, s20 = .int .i64 i ∧ Aside (SWK enc k w0 blk off d2 wx) ∧ d2.size = N ∧ Hid (Post (ltOf cf) a mid d1 d2))
      case first =>
        by_cases c1 : a < i
        · have z1 : (a : Int) < (i : Int) := by omega
          by_cases c2 : i < mid
          · have z2 : (i : Int) < (mid : Int) := by omega
            go_wp2_with fail
            refine (ih a i mid d1 _ (by omega) hs1 S2.out (by omega) (HX1.out.left c1 c2)).mono ?_
            rintro e w' ⟨rfl, d', S', hpo⟩
            go_wp2
            go_meet
            case rel => exact ⟨d', rfl, S', by rw [hpo.1.1]; exact hs1, hpo⟩
          · have z2 : ¬ (i : Int) < (mid : Int) := by omega
            go_wp2
            go_meet
            case rel => exact ⟨d1, rfl, S2, hs1, HX1.out.left_id (fun h => c2 h.2)⟩
        · have z1 : ¬ (a : Int) < (i : Int) := by omega
          go_wp2
          go_meet
          case rel => exact ⟨d1, rfl, S2, hs1, HX1.out.left_id (fun h => c1 h.1)⟩
      case rest =>
      obtain ⟨d2, rfl, S3, hs2, HP2⟩ := hcut
      clear S2
      refine hK3 _ _ ?_
      clear hK3
      by_cases c1 : mid < en
      · have z1 : (mid : Int) < (en : Int) := by omega
        by_cases c2 : en < b
        · have z2 : (en : Int) < (b : Int) := by omega
          go_wp2_with fail
          refine (ih mid en b d2 _ (by omega) hs2 S3.out hb (HX1.out.right HP2.out c1 c2)).mono ?_
          rintro e w' ⟨rfl, d', S', hpo⟩
          go_wp2
          go_end0
          have hd := HX1.out.done HP2.out hpo
          exact ⟨rfl, d', S', permIn_trans _ _ _ _ _ HP1.out hd.1, hd.2⟩
        · have z2 : ¬ (en : Int) < (b : Int) := by omega
          go_wp2
          go_end0
          have hd := HX1.out.done HP2.out (HX1.out.right_id HP2.out (fun h => c2 h.2))
          exact ⟨rfl, d2, S3.out, permIn_trans _ _ _ _ _ HP1.out hd.1, hd.2⟩
      · have z1 : ¬ (mid : Int) < (en : Int) := by omega
        go_wp2
        go_end0
        have hd := HX1.out.done HP2.out (HX1.out.right_id HP2.out (fun h => c1 h.1))
        exact ⟨rfl, d2, S3.out, permIn_trans _ _ _ _ _ HP1.out hd.1, hd.2⟩

theorem symMerge_any (L : Lays P k) (enc : Nat → List Value) (cf : Nat → Nat → Int) (g : Nat) (cb : Array Value) (hO : SWO (ltOf cf)) (blk off cap : Nat) (d0 : Array Nat) (w0 : World)
    (eg : ∀ args w, (callFunc g args).run P w = .ok (.enter g args) w) (hcmp : CmpLays P g cb enc k cf blk off d0.size w0) (R : RowK enc k w0 blk off d0) (N : Nat) (h0 : d0.size = N) (hsz : N < 4611686018427387904) :
    ∀ (NN a m b : Nat) (d : Array Nat) (w : World), b - a < NN → d.size = N → SWK enc k w0 blk off d w → b ≤ N → Mp (ltOf cf) a m b d →
    Calls P 102 #[.slice (some ⟨blk, off, none⟩) N cap, .int .i64 a, .int .i64 m, .int .i64 b, .func (.func g) #[] cb] w fun e w' =>
      e = .returned (.tuple #[]) ∧ ∃ d', SWK enc k w0 blk off d' w' ∧ Post (ltOf cf) a b d d' := by
  intro NN
  induction NN with
  | zero => intro _ _ _ _ _ h; exact absurd h (Nat.not_lt_zero _)
  | succ NN ih =>
    intro a m b d w hNN hs S0 hb HM
    by_cases hm1 : m = a + 1
    · exact symM1 L enc cf g cb hO blk off cap d0 w0 eg hcmp R N h0 hsz a m b d w hs S0 hb HM hm1
    · by_cases hb1 : b = m + 1
      · exact symM2 L enc cf g cb hO blk off cap d0 w0 eg hcmp R N h0 hsz a m b d w hs S0 hb HM hm1 hb1
      · exact symM3 L enc cf g cb hO blk off cap d0 w0 eg hcmp R N h0 hsz a m b d w hs S0 hb HM hm1 hb1 (fun a' m' b' d w h => ih a' m' b' d w (by omega))
end Go.Proofs.YteoljiclmhmbnaaDoor.Sr1

/-
  DERIVED: THE SHELF's CONTRACTS AT THIS DUMP, IN PLAIN WORDS (tools/lay-plain.mjs out of 'TrydInsSoft.lean', which tools/lay-shelf.mjs wrote): THE SAME DECLARATIONS UNDER THE SAME NAMES: 'import', 'namespace', 'open', 'def', 'theorem' AND NOTHING ELSE: no command of the shelf's: FOR A HAND-IN. Each laying: the table of numbers ('.._ren') and one theorem, a field a fact of the dump's own or the kernel's comparison; each contract: ONE APPLICATION.
-/
namespace Go.Proofs
open Go.Shelf
def Tryd.insRec_ren : Go.Shelf.Ren := ⟨fun | 20 => 101 | n => n, fun | 24 => 146 | 22 => 83 | 3 => 3 | 25 => 149 | 4 => 4 | 0 => 0 | n => n, fun | n => n⟩
theorem Tryd.insRec : Go.Proofs.SlLaysF0.n20 Tryd.prog Tryd.insRec_ren := {
  mixed := by kernel_rfl
  f20 := ⟨Tryd.f101.name, by decide, Tryd.func101.trans (congrArg some (by kernel_rfl))⟩
  t0 := Tryd.underlying0
  a0 := Tryd.isAgg0
  z0 := Tryd.sizeOf0
  v0 := Tryd.zeroValue0
  t3 := Tryd.underlying3
  a3 := Tryd.isAgg3
  z3 := Tryd.sizeOf3
  v3 := Tryd.zeroValue3
  t4 := Tryd.underlying4
  a4 := Tryd.isAgg4
  z4 := Tryd.sizeOf4
  v4 := Tryd.zeroValue4
  t22 := Tryd.underlying83
  a22 := Tryd.isAgg83
  z22 := Tryd.sizeOf83
  v22 := Tryd.zeroValue83
  t25 := Tryd.underlying149
  a25 := Tryd.isAgg149
  z25 := Tryd.sizeOf149
  v25 := Tryd.zeroValue149 }
def Tryd.insRow_ren : Go.Shelf.Ren := ⟨fun | 20 => 143 | n => n, fun | 24 => 200 | 22 => 135 | 3 => 3 | 25 => 201 | 4 => 4 | 0 => 0 | n => n, fun | n => n⟩
theorem Tryd.insRow : Go.Proofs.SlLaysF.n20 Tryd.prog Tryd.insRow_ren := {
  mixed := by kernel_rfl
  f20 := ⟨Tryd.f143.name, by decide, Tryd.func143.trans (congrArg some (by kernel_rfl))⟩
  t0 := Tryd.underlying0
  a0 := Tryd.isAgg0
  z0 := Tryd.sizeOf0
  v0 := Tryd.zeroValue0
  t3 := Tryd.underlying3
  a3 := Tryd.isAgg3
  z3 := Tryd.sizeOf3
  v3 := Tryd.zeroValue3
  t4 := Tryd.underlying4
  a4 := Tryd.isAgg4
  z4 := Tryd.sizeOf4
  v4 := Tryd.zeroValue4
  t22 := Tryd.underlying135
  a22 := Tryd.isAgg135
  z22 := Tryd.sizeOf135
  v22 := Tryd.zeroValue135
  a24 := Tryd.isAgg200
  z24 := Tryd.sizeOf200
  t25 := Tryd.underlying201
  a25 := Tryd.isAgg201
  z25 := Tryd.sizeOf201
  v25 := Tryd.zeroValue201 }
end Go.Proofs

/-
  slices.SortStableFunc at pub-kaeriten/pub/kagomedict/dict.UserDicRecord: the walks of stableCmpFunc and SortStableFunc (printed by gen_stab.py).
-/
set_option linter.unusedVariables false
set_option linter.unusedSimpArgs false
namespace Go.Proofs.YteoljiclmhmbnaaDoor.Sr1
open Go.Shelf Go.RowKit Go.Lib Go.Sort Go.Proofs Go.Proofs.YteoljiclmhmbnaaDoor.St

theorem ins_any (enc : Nat → List Value) (cf : Nat → Nat → Int) (g : Nat) (cb : Array Value) (hO : SWO (ltOf cf)) (blk off cap : Nat) (d0 : Array Nat) (w0 : World)
    (eg : ∀ args w, (callFunc g args).run Tryd.prog w = .ok (.enter g args) w) (hcmp : CmpLays Tryd.prog g cb enc 4 cf blk off d0.size w0) (R : RowK enc 4 w0 blk off d0) (N : Nat) (h0 : d0.size = N) (hsz : N < 4611686018427387904)
    (a b : Nat) (d : Array Nat) (w : World) (hs : d.size = N) (S : SWK enc 4 w0 blk off d w) (hab : a ≤ b) (hb : b ≤ N) :
    Calls Tryd.prog 101 #[.slice (some ⟨blk, off, none⟩) N cap, .int .i64 a, .int .i64 b, .func (.func g) #[] cb] w fun e w' =>
      e = .returned (.tuple #[]) ∧ SWK enc 4 w0 blk off (insertionSort (ltOf cf) d a b) w' := by
  have hs' : (insertionSort (ltOf cf) d a b).size = d.size := (insertionSort_holds hO d a b hab (by omega)).1.1
  have hC : CmpLays Tryd.prog g cb enc 4 cf blk off d.size w := fun m os dk hdk x y => by
    obtain ⟨n0, os0, rfl⟩ := S
    rw [sortWorldK_on enc 4 w0 blk off n0 m d dk os0 os R.hblk hdk]
    exact hcmp _ _ dk (by omega) x y
  have h := AnyQ.insertionSortCmpFunc Tryd.insRec 4 Tryd.isAgg146 Tryd.sizeOf146 enc R.hk R.h1 cf g cb blk off cap a b d w eg hC (S.holds R.hblk R.hH (by omega)) (S.lt R.hblk) hab (by omega) (by omega)
  rw [hs] at h
  refine Calls.mono h ?_
  rintro e w' ⟨rfl, n, os, rfl⟩
  exact ⟨rfl, S.on R.hblk n _ os hs'⟩

set_option maxHeartbeats 8000000 in
set_option maxRecDepth 100000 in
theorem stable_any (enc : Nat → List Value) (cf : Nat → Nat → Int) (g : Nat) (cb : Array Value) (hO : SWO (ltOf cf)) (blk off cap : Nat) (w0 : World) (N : Nat)
    (eg : ∀ args w, (callFunc g args).run Tryd.prog w = .ok (.enter g args) w) (hcmp : CmpLays Tryd.prog g cb enc 4 cf blk off N w0) (R : RowK enc 4 w0 blk off (Array.range N)) (hsz : N < 1152921504606846976) :
    Calls Tryd.prog 77 #[.slice (some ⟨blk, off, none⟩) N cap, .int .i64 N, .func (.func g) #[] cb] w0 fun e w' =>
      e = .returned (.tuple #[]) ∧ SWK enc 4 w0 blk off (stab (ltOf cf) N) w' := by
  have h0 : (Array.range N).size = N := by simp
  have HC : Hid _ := hcmp
  have HR : Hid _ := R
  have HO : Hid _ := hO
  have H0 : Hid _ := h0
  have hins := fun (a b : Nat) (d : Array Nat) (w : World) => ins_any enc cf g cb hO blk off cap (Array.range N) w0 eg (by rw [h0]; exact hcmp) R N h0 (by omega) a b d w
  have hmer := fun (a m b : Nat) (d : Array Nat) (w : World) => symMerge_any lays enc cf g cb hO blk off cap (Array.range N) w0 eg (by rw [h0]; exact hcmp) R N h0 (by omega) (b - a + 1) a m b d w (by omega)
  have HI : Hid _ := hins
  have HME : Hid _ := hmer
  have S0 : Hid (SWK enc 4 w0 blk off (Array.range N) w0) := SWK.start R.hH
  clear hcmp R hO h0 hins hmer
  go_enter Tryd.func77, Tryd.ntmps77
  go_wp2
  go_loopg [7, 8] N (fun kx sa sb wr => ∃ (q A : Nat) (d : Array Nat), sa = .int .i64 A ∧ sb = .int .i64 ((A + 20 : Nat) : Int) ∧ Hid (A = 20 * q) ∧ A ≤ N ∧ N - A ≤ kx ∧ Hid (d.size = N) ∧ Hid (SWK enc 4 w0 blk off d wr) ∧
    Hid (Blk (ltOf cf) 20 0 (20 * q) d) ∧ Hid (∀ i, 20 * q ≤ i → i < N → d[i]! = i) ∧ Hid (PermIn 0 N (Array.range N) d))
  case atStart => exact ⟨0, 0, Array.range N, rfl, rfl, rfl, Nat.zero_le _, by omega, H0, S0, fun i h1 h2 => by omega, fun i _ h => get_range h, permIn_refl _ _ _⟩
  case round =>
    clear S0
    obtain ⟨q, A, d, rfl, rfl, HA, hAN, hkx, HS, S1, HB, HD, HP⟩ := hrel
    by_cases hle : A + 20 ≤ N
    · have hz : (A : Int) + 20 ≤ (N : Int) := by omega
      have hz' : ((A + 20 : Nat) : Int) ≤ (N : Int) := by omega
      have hb := blk_ins (b := A + 20) HO.out (by omega) HS.out HB.out HD.out (by have := HA.out; omega) (by have := HA.out; omega) hle
      rw [← HA.out] at hb
      have HBI : Hid _ := hb
      clear hb
      go_wp2_with fail
      refine (HI.out A (A + 20) d _ HS.out S1.out (by omega) hle).mono ?_
      rintro e w' ⟨rfl, hS2⟩
      have S2 : Hid _ := hS2
      clear hS2
      clear S1
      go_wp2
      go_roundg (N - (A + 20))
      case measure => omega
      case rel =>
        have he : 20 * (q + 1) = A + 20 := by have := HA.out; omega
        exact ⟨q + 1, A + 20, insertionSort (ltOf cf) d A (A + 20), by go_num, by go_num, he.symm, hle, by omega, HBI.out.2.1, S2, by show Blk _ _ _ _ _; rw [he]; exact HBI.out.1, by show ∀ _, _; rw [he]; exact HBI.out.2.2.1, permIn_trans _ _ _ _ _ HP.out HBI.out.2.2.2⟩
    · have hz : ¬ (A : Int) + 20 ≤ (N : Int) := by omega
      have hz' : ¬ ((A + 20 : Nat) : Int) ≤ (N : Int) := by omega
      have hb := blk_ins (b := N) HO.out (by omega) HS.out HB.out HD.out (by have := HA.out; omega) (by have := HA.out; omega) (Nat.le_refl _)
      rw [← HA.out] at hb
      have HBI : Hid _ := hb
      clear hb
      go_wp2_with fail
      refine (HI.out A N d _ HS.out S1.out hAN (Nat.le_refl _)).mono ?_
      rintro e w' ⟨rfl, hS2⟩
      have S2 : Hid _ := hS2
      clear hS2
      clear S1 HI
      have HB2 : Hid _ := HBI.out.1
      have HS2 : Hid _ := HBI.out.2.1
      have HP2 : Hid (PermIn 0 N (Array.range N) (insertionSort (ltOf cf) d A N)) := permIn_trans _ _ _ _ _ HP.out HBI.out.2.2.2
      clear HBI HA HS HB HD HP
      generalize insertionSort (ltOf cf) d A N = d1 at S2 HB2 HS2 HP2
      clear hAN hkx hle hz hz' d
      generalize (A : Int) = ja
      go_wp2
      go_loopg [6] N (fun ky sB wr2 => ∃ (B : Nat) (d : Array Nat), sB = .int .i64 B ∧ 20 ≤ B ∧ B ≤ 2 * N + 20 ∧ N - B ≤ ky ∧ Hid (d.size = N) ∧ Hid (SWK enc 4 w0 blk off d wr2) ∧ Hid (Blk (ltOf cf) B 0 N d) ∧ Hid (PermIn 0 N (Array.range N) d))
      case atStart => exact ⟨20, d1, rfl, by omega, by omega, by omega, HS2, S2, HB2, HP2⟩
      case round =>
        clear S2 HB2 HS2 HP2
        obtain ⟨B, d2, rfl, hB20, hBN, hky, HS2, S2, HB2, HP2⟩ := hrel
        by_cases hlt : B < N
        · have hz : (B : Int) < (N : Int) := by omega
          go_wp2
          go_loopg [7, 8] N (fun kz sa sb wr3 => ∃ (q A : Nat) (d : Array Nat), sa = .int .i64 A ∧ sb = .int .i64 ((A + 2 * B : Nat) : Int) ∧ Hid (A = 2 * B * q) ∧ A ≤ N ∧ N - A ≤ kz ∧ Hid (d.size = N) ∧ Hid (SWK enc 4 w0 blk off d wr3) ∧
            Hid (Blk (ltOf cf) (2 * B) 0 (2 * B * q) d) ∧ Hid (Blk (ltOf cf) B (2 * B * q) N d) ∧ Hid (PermIn 0 N (Array.range N) d))
          case atStart => exact ⟨0, 0, d2, rfl, by go_num, rfl, Nat.zero_le _, by omega, HS2, S2, fun i h1 h2 => by omega, HB2, HP2⟩
          case round =>
            clear S2 HB2 HS2 HP2
            obtain ⟨q, A, d, rfl, rfl, HA, hAN, hkz, HS, S1, HL, HH, HP⟩ := hrel
            by_cases hle : A + 2 * B ≤ N
            · have hz : ((A + 2 * B : Nat) : Int) ≤ (N : Int) := by omega
              have hz' : (A : Int) + 2 * (B : Int) ≤ (N : Int) := by omega
              have hmp : Mp (ltOf cf) A (A + B) (A + 2 * B) d := by
                have h1 := HA.out
                have := blk_mp (q := q) (b := A + 2 * B) (by omega) HH.out (by rw [HS.out]; exact Nat.le_refl _) (by omega) (by omega) hle
                rwa [← h1] at this
              have HMP : Hid _ := hmp
              clear hmp
              have hm := HME.out A (A + B) (A + 2 * B) d
              have e1 : ((A + B : Nat) : Int) = (A : Int) + (B : Int) := by omega
              rw [e1] at hm
              have HM : Hid _ := hm
              clear hm
              go_wp2_with fail
              refine (HM.out _ HS.out S1.out hle HMP.out).mono ?_
              rintro e w' ⟨rfl, d', hS2, hpo⟩
              have S2 : Hid _ := hS2
              clear hS2
              have HPO : Hid _ := hpo
              clear S1 hpo e1
              go_wp2
              go_roundg (N - (A + 2 * B))
              case measure => omega
              case rel =>
                have h1 := HA.out
                have he : 2 * B * (q + 1) = A + 2 * B := by rw [Nat.mul_add, ← h1]; omega
                refine ⟨q + 1, A + 2 * B, d', by go_num, by go_num, he.symm, hle, by omega, by show _ = _; rw [HPO.out.1.1]; exact HS.out, S2, ?_, ?_, permIn_trans _ _ _ _ _ HP.out (permIn_mono _ _ _ _ _ _ (Nat.zero_le _) hle (by rw [HS.out]; exact Nat.le_refl _) HPO.out.1)⟩
                · show Blk _ _ _ _ _
                  rw [he]
                  have hl := HL.out
                  have hh := HH.out
                  have hpo := HPO.out
                  rw [h1] at hpo hle ⊢
                  exact blk_more (lo' := 0) (by omega) hl (by omega) (Nat.le_refl _) (by rw [HS.out]; exact hle) hpo.1 (fun i h2 h3 => blk_tag2 (by omega) hh i h2 (by omega) h3) hpo.2
                · show Blk _ _ _ _ _
                  rw [he]
                  exact blk_rest (blk_mono HH.out (by omega) (Nat.le_refl _)) HPO.out.1 (Nat.le_refl _)
            · have hz : ¬ ((A + 2 * B : Nat) : Int) ≤ (N : Int) := by omega
              have hz' : ¬ (A : Int) + 2 * (B : Int) ≤ (N : Int) := by omega
              by_cases hm : A + B < N
              · have hy : (A : Int) + (B : Int) < (N : Int) := by omega
                have hmp : Mp (ltOf cf) A (A + B) N d := by
                  have h1 := HA.out
                  have := blk_mp (q := q) (b := N) (by omega) HH.out (by rw [HS.out]; exact Nat.le_refl _) (by omega) (by omega) (Nat.le_refl _)
                  rwa [← h1] at this
                have HMP : Hid _ := hmp
                clear hmp
                have hm := HME.out A (A + B) N d
                have e1 : ((A + B : Nat) : Int) = (A : Int) + (B : Int) := by omega
                rw [e1] at hm
                have HM : Hid _ := hm
                clear hm
                go_wp2_with fail
                refine (HM.out _ HS.out S1.out (Nat.le_refl _) HMP.out).mono ?_
                rintro e w' ⟨rfl, d', hS2, hpo⟩
                have S2 : Hid _ := hS2
                clear hS2
                have HPO : Hid _ := hpo
                clear S1 hpo e1
                go_wp2
                go_roundg (N - 2 * B)
                case measure => omega
                case rel =>
                  have h1 := HA.out
                  refine ⟨B * 2, d', by go_num, by omega, by omega, by omega, by show _ = _; rw [HPO.out.1.1]; exact HS.out, S2, ?_, permIn_trans _ _ _ _ _ HP.out (permIn_mono _ _ _ _ _ _ (Nat.zero_le _) (Nat.le_refl _) (by rw [HS.out]; exact Nat.le_refl _) HPO.out.1)⟩
                  show Blk _ _ _ _ _
                  have hl := HL.out
                  have hh := HH.out
                  have hpo := HPO.out
                  rw [h1] at hpo hle hAN
                  rw [Nat.mul_comm B 2]
                  exact blk_more (lo' := 0) (by omega) hl hAN (by omega) (by rw [HS.out]; exact Nat.le_refl _) hpo.1 (fun i h2 h3 => blk_tag2 (by omega) hh i h2 h3 (by omega)) hpo.2
              · have hy : ¬ (A : Int) + (B : Int) < (N : Int) := by omega
                go_wp2
                go_roundg (N - 2 * B)
                case measure => omega
                case rel =>
                  have h1 := HA.out
                  refine ⟨B * 2, d, by go_num, by omega, by omega, by omega, HS, S1, ?_, HP⟩
                  show Blk _ _ _ _ _
                  have hl := HL.out
                  have hh := HH.out
                  rw [h1] at hle hAN hm
                  rw [Nat.mul_comm B 2]
                  exact blk_more (lo' := 0) (by omega) hl hAN (by omega) (by rw [HS.out]; exact Nat.le_refl _) (permIn_refl _ _ _) (fun i h2 h3 => blk_tag2 (by omega) hh i h2 h3 (by omega))
                    (blk_sorted (q := 2 * q) (by omega) hh (by rw [← Nat.mul_assoc, Nat.mul_comm B 2]; exact Nat.le_refl _) (by rw [← Nat.mul_assoc, Nat.mul_comm B 2]; omega))
        · have hz : ¬ (B : Int) < (N : Int) := by omega
          go_wp2
          go_end0
          refine ⟨rfl, ?_⟩
          rw [← blk_end HO.out (by omega) HB2.out HP2.out]
          exact S2.out
end Go.Proofs.YteoljiclmhmbnaaDoor.Sr1

/-
  Small laws of memory: an append of one element into a row of the call's own, whatever the world before it; blocks that stay.
-/
set_option linter.unusedVariables false
set_option linter.unusedSimpArgs false
namespace Go.Proofs.YteoljiclmhmbnaaDoor.K
open Go.RowKit Go.Proofs.YteoljiclmhmbnaaDoorW.PrintWords

theorem ba_ext {a b : ByteArray} (h : a.data = b.data) : a = b := by cases a; cases b; simp at h; rw [h]
instance instDecEqBA : DecidableEq ByteArray := fun a b => if h : a.data = b.data then isTrue (ba_ext h) else isFalse (by rintro rfl; exact h rfl)
theorem ba_toList {a b : ByteArray} (h : a.toList = b.toList) : a = b := by
  have := congrArg (fun l => (⟨l.toArray⟩ : ByteArray)) h
  exact ba_ext (by simpa [ByteArray.toList_eq] using this)

/-- Whether a list has something. -/
def memB {α : Type} [DecidableEq α] (x : α) (xs : List α) : Bool := xs.any fun y => decide (y = x)
theorem memB_iff {α : Type} [DecidableEq α] {x : α} {xs : List α} : memB x xs = true ↔ x ∈ xs := by simp [memB]
theorem memB_true {α : Type} [DecidableEq α] {x : α} {xs : List α} (h : x ∈ xs) : memB x xs = true := memB_iff.2 h
theorem memB_false {α : Type} [DecidableEq α] {x : α} {xs : List α} (h : x ∉ xs) : memB x xs = false := by
  cases hb : memB x xs
  · rfl
  · exact absurd (memB_iff.1 hb) h

theorem lt_of_heap {w : World} {a : Nat} {o : Obj} (h : w.heap[a]? = some o) : a < w.heap.size := (Array.getElem?_eq_some_iff.1 h).1
theorem typ_ne {w : World} {a b : Nat} {c d : Array Value} {s t : Nat} {f g : Nat × Nat} (h : w.heap[a]? = some (.cells c s f)) (k : w.heap[b]? = some (.cells d t g)) (hn : s ≠ t) : a ≠ b := by
  rintro rfl
  rw [h] at k
  injection k with k
  injection k with _ k
  exact hn k
theorem own_heap {w : World} {base e size n : Nat} {v : Value} {xs : List Value} (h : w.ownsRow base e size v n xs) {g : Nat} (hg : v.ownBlock = some g) : ∃ cur, w.heap[g]? = some (.cells cur e (0, 0)) := by
  rcases h.2 with ⟨rfl, _⟩ | ⟨g', cap, cur, rfl, _, hh, _⟩
  · simp [Value.ownBlock] at hg
  · simp [Value.ownBlock] at hg
    subst hg
    exact ⟨cur, hh⟩
theorem own_keep {w w1 : World} {base e size n : Nat} {v : Value} {xs : List Value} (h : w.ownsRow base e size v n xs) (hm : ∀ k, v.ownBlock = some k → w1.heap[k]? = w.heap[k]?) : w1.ownsRow base e size v n xs := by
  obtain ⟨h1, h2⟩ := h
  refine ⟨h1, ?_⟩
  rcases h2 with h2 | ⟨g, cap, cur, rfl, hg, hh, r⟩
  · exact .inl h2
  · exact .inr ⟨g, cap, cur, rfl, hg, (hm g (by simp [Value.ownBlock])).trans hh, r⟩
theorem cell_of_heap {w : World} {b : Nat} {c : Array Value} {t : Nat} {f : Nat × Nat} (h : w.heap[b]? = some (.cells c t f)) (j : Nat) : w.cell? ⟨b, j, none⟩ = c[j]? := by
  simp [World.cell?, h]
theorem frozen_of_heap {w : World} {b : Nat} {c : Array Value} {t : Nat} (h : w.heap[b]? = some (.cells c t (0, 0))) (j : Nat) : w.frozen? ⟨b, j, none⟩ = false := by
  simp [World.frozen?, h]
theorem heap_new (w : World) (o : Obj) : (w.alloc o).heap[w.heap.size]? = some o := heap_alloc_new w o
theorem heap_old {w : World} {k : Nat} {x : Obj} (h : w.heap[k]? = some x) (o : Obj) : (w.alloc o).heap[k]? = some x := by
  rw [heap_alloc_old w o (lt_of_heap h)]; exact h
theorem heap_old' (w : World) (o : Obj) {k : Nat} (h : k < w.heap.size) : (w.alloc o).heap[k]? = w.heap[k]? := heap_alloc_old w o h
theorem heap_set {w : World} {b : Nat} {c : Array Value} {t : Nat} {f : Nat × Nat} (h : w.heap[b]? = some (.cells c t f)) (j : Nat) (v : Value) : (w.setCell ⟨b, j, none⟩ v).heap[b]? = some (.cells (c.setIfInBounds j v) t f) := by
  simp [World.setCell, Array.getElem?_modify, h]
theorem heap_set_ne {w : World} {b k : Nat} (hn : k ≠ b) (j : Nat) (v : Value) : (w.setCell ⟨b, j, none⟩ v).heap[k]? = w.heap[k]? := Below.heap_setCell w ⟨b, j, none⟩ v k hn
theorem size_set (w : World) (a : Addr) (v : Value) : (w.setCell a v).heap.size = w.heap.size := by simp [World.setCell]
theorem size_alloc (w : World) (o : Obj) : (w.alloc o).heap.size = w.heap.size + 1 := by simp

/-- Blocks laid one behind the other. -/
def allocs (w : World) : List Obj → World
  | [] => w
  | o :: r => allocs (w.alloc o) r
theorem allocs_size (w : World) : ∀ os, (allocs w os).heap.size = w.heap.size + os.length := by
  intro os
  induction os generalizing w with
  | nil => rfl
  | cons o r ih => rw [allocs, ih, size_alloc, List.length_cons]; omega
theorem allocs_old (w : World) {k : Nat} (h : k < w.heap.size) : ∀ os, (allocs w os).heap[k]? = w.heap[k]? := by
  intro os
  induction os generalizing w with
  | nil => rfl
  | cons o r ih => rw [allocs, ih _ (by rw [size_alloc]; omega), heap_old' _ _ h]
theorem allocs_new (w : World) : ∀ (os : List Obj) (i : Nat) (o : Obj), os[i]? = some o → (allocs w os).heap[w.heap.size + i]? = some o := by
  intro os
  induction os generalizing w with
  | nil => intro i o h; simp at h
  | cons o r ih =>
    intro i o' h
    rw [allocs]
    cases i with
    | zero =>
      simp at h
      subst h
      rw [Nat.add_zero, allocs_old _ (by rw [size_alloc]; omega), heap_new]
    | succ i =>
      have := ih (w.alloc o) i o' (by simpa using h)
      rw [size_alloc] at this
      rw [show w.heap.size + (i + 1) = w.heap.size + 1 + i by omega]
      exact this
theorem allocs_below (w : World) (os : List Obj) : Below w.heap.size w (allocs w os) := by
  induction os generalizing w with
  | nil => exact Below.refl _ _
  | cons o r ih => exact ((Below.refl _ _).alloc (Nat.le_refl _) o).trans ((ih _).mono (by rw [size_alloc]; omega))
/-- A block that holds a row is read as the row. -/
theorem C_of_block {α : Type} {d : Kd α} {w : World} {b : Nat} {cs : List Value} {xs : List α} {e : Nat} {fr : Nat × Nat} (h : w.heap[b]? = some (.cells cs.toArray e fr)) (hr : Reps (d.K w) d.sz xs cs) (hl : xs.length ≤ 9223372036854775807) :
    d.C w (some ⟨b, 0, none⟩) xs.length xs := by
  refine ⟨rfl, hl, fun _ => ⟨_, rfl, fun j p hp => ⟨(cs.drop (j * d.sz)).take d.sz, ?_, hr.2 j p hp, ?_⟩⟩⟩
  · have hj := (List.getElem?_eq_some_iff.1 hp).1
    have h1 : j * d.sz + d.sz ≤ cs.length := by rw [hr.1, ← Nat.succ_mul]; exact Nat.mul_le_mul_right _ hj
    rw [List.length_take, List.length_drop]; omega
  · intro i u hu
    rw [add_plain, cell_of_heap h]
    rw [List.getElem?_take] at hu
    split at hu
    · rw [List.getElem?_drop] at hu
      simpa using hu
    · cases hu
theorem C_of_arr {α : Type} {d : Kd α} {w : World} {b : Nat} {cs : Array Value} {xs : List α} {e : Nat} {fr : Nat × Nat} (h : w.heap[b]? = some (.cells cs e fr)) (hr : Reps (d.K w) d.sz xs cs.toList) (hl : xs.length ≤ 9223372036854775807) :
    d.C w (some ⟨b, 0, none⟩) xs.length xs := C_of_block (cs := cs.toList) (by rw [h]) hr hl
theorem reps_strs (w : World) (xs : List ByteArray) : Reps (Kd.string.K w) Kd.string.sz xs (xs.map Value.string) := Kd.reps_scalar xs
theorem reps_bools (w : World) (xs : List Bool) : Reps (Kd.bool.K w) Kd.bool.sz xs (xs.map Value.bool) := Kd.reps_scalar xs
theorem reps_ints (w : World) (k : IntKind) (xs : List Int) : Reps ((Kd.int k).K w) (Kd.int k).sz xs (xs.map (Value.int k)) := Kd.reps_scalar xs
/-- Rows in line. -/
theorem reps_cons {α : Type} {R : α → List Value → Prop} {size : Nat} {p : α} {ps : List α} {c cs : List Value} (hp : R p c) (hc : c.length = size) (h : Reps R size ps cs) : Reps R size (p :: ps) (c ++ cs) := by
  refine ⟨by rw [List.length_append, h.1, hc, List.length_cons, Nat.add_mul, Nat.one_mul, Nat.add_comm], fun j q hq => ?_⟩
  cases j with
  | zero =>
    simp at hq
    subst hq
    rw [Nat.zero_mul, List.drop_zero, List.take_left' hc]
    exact hp
  | succ j =>
    have h2 := h.2 j q (by simpa using hq)
    rw [Nat.succ_mul, Nat.add_comm, ← hc, ← List.drop_drop, List.drop_left, hc]
    exact h2

theorem cell_new0 (w : World) (y : Value) (e : TypeId) : (w.alloc (.cells #[y] e)).cell? ⟨w.heap.size, 0, none⟩ = some y := by
  rw [cell_of_heap (heap_new w _)]; rfl
theorem cell_new1 (w : World) (o : Obj) (y : Value) (e : TypeId) : ((w.alloc o).alloc (.cells #[y] e)).cell? ⟨w.heap.size + 1, 0, none⟩ = some y := by
  have h := cell_new0 (w.alloc o) y e
  rwa [size_alloc] at h

section
variable {P : Program} {ops : Array Oper} {rest : List Oper} {o : Oper} {a : Act} {Q : Exit → Act → World → Prop}
/-- append(v, y) into a row of the call's own, from base on; the new element lies at block g. -/
theorem app1 {w0 W : World} (base : Nat) (hgd : o.guard = none) (s x : Operand) (t e : TypeId) (z : Value) (bytes : Nat)
    (ho : o.op = .call { callee := .builtin .append, args := #[s, x], argTypes := #[t, t] })
    (ht : P.underlying t = some (.slice e)) (hinfo : (P.info? e).map (fun i => (i.zero, i.size, i.bytes)) = some (some z, 1, bytes)) (hz : z.cells.size = 1) (hb0 : 0 < bytes)
    (v : Value) (xs : List Value) (y : Value) (g : Nat) (hs : a.eval s = v) (hx : a.eval x = .slice (some ⟨g, 0, none⟩) 1 1) (hg : W.cell? ⟨g, 0, none⟩ = some y) (h1 : y.oneCell' = true)
    (HO : W.ownsRow base e 1 v xs.length xs) (HB : Below base w0 W) (hbase : base ≤ W.heap.size) (hl : (xs.length + 1) * bytes ≤ 140737488355328)
    (h : ∀ v1 w1, w1.ownsRow base e 1 v1 (xs ++ [y]).length (xs ++ [y]) → Below base w0 w1 → W.grownBy w1 v.ownBlock → (v1.ownBlock = v.ownBlock ∨ ∃ b, v1.ownBlock = some b ∧ W.heap.size ≤ b) → wpList P ops Q rest (a.put o.dst v1) w1) :
    wpList P ops Q (o :: rest) a W := by
  obtain ⟨i0, hi, hzz⟩ := Option.map_eq_some_iff.1 hinfo
  simp only [Prod.mk.injEq] at hzz
  obtain ⟨hz0, hz1, hz2⟩ := hzz
  have hlen : xs.length + 1 ≤ 140737488355328 := Nat.le_trans (Nat.le_mul_of_pos_right _ hb0) hl
  refine wpList_append_own_at W hgd s x t ho base e i0 z 1 bytes ht hi hz0 hz1 hz2 hz (by omega) v xs.length xs hs HO ⟨g, 0, none⟩ 1 1 [y] hx rfl
    ?_ (by simpa using h1) (by simp only [maxLen]; omega) hl (by omega) ?_
  · intro j u hj
    cases j with
    | zero => simp at hj; subst hj; simpa [Addr.add] using hg
    | succ j => simp at hj
  intro v1 w1 hown hgr _ hat
  refine h v1 w1 (by simpa using hown) (HB.grown hgr hbase (own_base HO)) hgr ?_
  rcases hat with hat | hat
  · exact .inl hat
  · exact .inr ⟨_, hat, Nat.le_refl _⟩

/-- append(v, p) into a row of kind d, from base on; p's cells cs lie at block g. -/
theorem kapp {α : Type} (d : Kd α) {w0 W : World} (base : Nat) (hgd : o.guard = none) (s x : Operand) (t e : TypeId) (z : Value) (bytes : Nat)
    (ho : o.op = .call { callee := .builtin .append, args := #[s, x], argTypes := #[t, t] })
    (ht : P.underlying t = some (.slice e)) (hinfo : (P.info? e).map (fun i => (i.zero, i.size, i.bytes)) = some (some z, d.sz, bytes)) (hz : z.cells.size = d.sz) (hs0 : 0 < d.sz) (hb0 : 0 < bytes)
    (v : Value) (xs : List α) (p : α) (cs : List Value) (ok okp : Nat → Prop) (g : Nat) (hs : a.eval s = v) (hx : a.eval x = .slice (some ⟨g, 0, none⟩) 1 1) (hg : ∀ j u, cs[j]? = some u → W.cell? ⟨g, j, none⟩ = some u)
    (hp : d.M W base okp p cs) (hokp : ∀ k, okp k → ok k ∧ some k ≠ v.ownBlock) (hfresh : ∀ k, W.heap.size ≤ k → ok k)
    (HO : d.R e W base ok v xs) (HB : Below base w0 W) (hbase : base ≤ W.heap.size) (hl : (xs.length + 1) * bytes ≤ 140737488355328)
    (h : ∀ v1 w1, d.R e w1 base ok v1 (xs ++ [p]) → Below base w0 w1 → W.grownBy w1 v.ownBlock → (v1.ownBlock = v.ownBlock ∨ ∃ b, v1.ownBlock = some b ∧ W.heap.size ≤ b) → wpList P ops Q rest (a.put o.dst v1) w1) :
    wpList P ops Q (o :: rest) a W := by
  obtain ⟨i0, hi, hzz⟩ := Option.map_eq_some_iff.1 hinfo
  simp only [Prod.mk.injEq] at hzz
  obtain ⟨hz0, hz1, hz2⟩ := hzz
  have hlen : xs.length + 1 ≤ 140737488355328 := Nat.le_trans (Nat.le_mul_of_pos_right _ hb0) hl
  obtain ⟨h0, inner, hown, hr⟩ := HO
  have hcl : cs.length = d.sz := d.K_len (d.K_of_M hp)
  refine wpList_append_own_at W hgd s x t ho base e i0 z d.sz bytes ht hi hz0 hz1 hz2 hz hs0 v xs.length inner hs hown ⟨g, 0, none⟩ 1 1 cs hx (by omega)
    ?_ (d.K_one (d.K_of_M hp)) (by simp only [maxLen]; omega) hl (by omega) ?_
  · intro j u hj
    have := hg j u hj
    rcases Nat.eq_zero_or_pos j with rfl | hj0
    · simpa [Addr.add] using this
    · rw [Addr.add]; simp; rw [if_neg (by omega)]; exact this
  intro v1 w1 hown1 hgr _ hat
  have hat' : v1.ownBlock = v.ownBlock ∨ ∃ b, v1.ownBlock = some b ∧ W.heap.size ≤ b := by
    rcases hat with hat | hat
    · exact .inl hat
    · exact .inr ⟨_, hat, Nat.le_refl _⟩
  exact h v1 w1 (Kd.R_appended h0 hr hp hokp hfresh hown1 hgr hat') (HB.grown hgr hbase (own_base hown)) hgr hat'
end

/-- A text's place in a list of texts. -/
theorem strs_at {w : World} {A : Option Addr} {n : Nat} {xs : List ByteArray} (h : Kd.string.C w A n xs) : ∀ j (hj : j < xs.length), ∃ ad, A = some ad ∧ w.cell? (ad.add j) = some (.string xs[j]) := by
  intro j hj
  obtain ⟨ad, hA, hc⟩ := h.2.2 (by have := h.1; omega)
  obtain ⟨c, hl, hk, hcell⟩ := hc j xs[j] (List.getElem?_eq_getElem hj)
  have hk' : c = [.string xs[j]] := hk
  subst hk'
  have := hcell 0 _ rfl
  have e : Kd.string.sz = 1 := rfl
  rw [e, Nat.mul_one, Nat.add_zero] at this
  exact ⟨ad, hA, this⟩
/-- A row's place in a list of rows. -/
theorem rows_at {α : Type} {d : Kd α} {e : Nat} {w : World} {A : Option Addr} {n : Nat} {xs : List (List α)} (h : (Kd.slice e d).C w A n xs) : ∀ j (hj : j < xs.length), ∃ ad A' c', A = some ad ∧ w.cell? (ad.add j) = some (.slice A' xs[j].length c') ∧ xs[j].length ≤ c' ∧ d.C w A' xs[j].length xs[j] := by
  intro j hj
  obtain ⟨ad, hA, hc⟩ := h.2.2 (by have := h.1; omega)
  obtain ⟨c, hl, hk, hcell⟩ := hc j xs[j] (List.getElem?_eq_getElem hj)
  obtain ⟨A', c', rfl, hl', hC⟩ := hk
  have := hcell 0 _ rfl
  have e : (Kd.slice e d).sz = 1 := rfl
  rw [e, Nat.mul_one, Nat.add_zero] at this
  exact ⟨ad, A', c', hA, this, hl', hC⟩
/-- Nothing in an empty row of the call's own. -/
theorem R_empty {α : Type} (d : Kd α) (e : Nat) (w : World) (base : Nat) (hb : base ≤ w.heap.size) : d.R e (w.alloc (.cells #[] e)) base (fun _ => True) (.slice (some ⟨w.heap.size, 0, none⟩) 0 0) [] := by
  refine ⟨fun _ _ => trivial, [], World.ownsRow_made w #[] 0 hb (Nat.zero_le _) (by simp), ⟨by simp, fun j p h => by simp at h⟩⟩
/-- A row of the call's own is returned. -/
def RetRow {α : Type} (d : Kd α) (e : Nat) (xs : List α) (w : World) (en : Ending) (w' : World) : Prop :=
  ∃ v, en = .returned v ∧ d.R e w' w.heap.size (fun _ => True) v xs ∧ Below w.heap.size w w'

end Go.Proofs.YteoljiclmhmbnaaDoor.K

/-
  The walks of zzIndex and zzSplit where the separator is one byte.
-/
set_option linter.unusedVariables false
set_option linter.unusedSimpArgs false
namespace Go.Proofs.YteoljiclmhmbnaaDoor.Tx
open Go.RowKit Go.Proofs.YteoljiclmhmbnaaDoor.K Go.Proofs.YteoljiclmhmbnaaDoorW.PrintWords

abbrev one (c : UInt8) : ByteArray := ⟨#[c]⟩
def toL (s : ByteArray) : List UInt8 := s.data.toList
def ofL (l : List UInt8) : ByteArray := ⟨l.toArray⟩
theorem toL_ofL (l : List UInt8) : toL (ofL l) = l := by simp [toL, ofL]
theorem ofL_toL (s : ByteArray) : ofL (toL s) = s := by cases s; simp [toL, ofL]
theorem toL_size (s : ByteArray) : (toL s).length = s.size := by simp [toL]
theorem ofL_size (l : List UInt8) : (ofL l).size = l.length := by simp [ofL, ByteArray.size]

theorem ofL_extract (l : List UInt8) (i j : Nat) : (ofL l).extract i j = ofL ((l.drop i).take (j - i)) := by
  apply ba_ext
  simp [ofL, ByteArray.data_extract, List.extract_eq_take_drop]
theorem ofL_toList (l : List UInt8) : (ofL l).toList = l := by rw [ByteArray.toList_eq]; simp [ofL]
theorem one_toList (c : UInt8) : (one c).toList = [c] := by rw [ByteArray.toList_eq]
theorem take1 (l : List UInt8) (k : Nat) (h : k < l.length) : (l.drop k).take (k + 1 - k) = [l[k]] := by
  rw [Nat.add_sub_cancel_left, List.drop_eq_getElem_cons h]; rfl
theorem not_mem_succ {l : List UInt8} {c : UInt8} {k : Nat} (hk : k < l.length) (h : c ∉ l.take k) (h2 : l[k] ≠ c) : c ∉ l.take (k + 1) := by
  rw [List.take_succ_eq_append_getElem hk]
  intro hm
  rcases List.mem_append.1 hm with hm | hm
  · exact h hm
  · exact h2 (List.mem_singleton.1 hm).symm
theorem idx_at {l : List UInt8} {c : UInt8} {k : Nat} (hk : k < l.length) (h : c ∉ l.take k) (h2 : l[k] = c) : c ∈ l ∧ l.idxOf c = k := by
  have hs : l = l.take k ++ c :: l.drop (k + 1) := by
    rw [← h2, ← List.drop_eq_getElem_cons hk, List.take_append_drop]
  refine ⟨by rw [← h2]; exact List.getElem_mem hk, ?_⟩
  have : (l.take k ++ c :: l.drop (k + 1)).idxOf c = k := by
    rw [List.idxOf_append, if_neg h, List.idxOf_cons_self, List.length_take]; omega
  rw [← hs] at this
  exact this
def ixInt (c : UInt8) (l : List UInt8) : Int := if c ∈ l then (l.idxOf c : Int) else -1

def splitC (c : UInt8) : List UInt8 → List (List UInt8)
  | [] => [[]]
  | x :: r => if x = c then [] :: splitC c r else match splitC c r with
    | h :: t => (x :: h) :: t
    | [] => [[x]]
theorem splitC_ne (c : UInt8) (l : List UInt8) : splitC c l ≠ [] := by
  cases l with
  | nil => simp [splitC]
  | cons x r =>
    rw [splitC]
    split
    · simp
    · split <;> simp
theorem splitC_no {c : UInt8} {l : List UInt8} (h : c ∉ l) : splitC c l = [l] := by
  induction l with
  | nil => rfl
  | cons x r ih =>
    simp only [List.mem_cons, not_or] at h
    rw [splitC, if_neg (fun e => h.1 e.symm), ih h.2]
theorem splitC_app {c : UInt8} {a : List UInt8} (h : c ∉ a) (r : List UInt8) : splitC c (a ++ c :: r) = a :: splitC c r := by
  induction a with
  | nil => rw [List.nil_append, splitC, if_pos rfl]
  | cons x a ih =>
    simp only [List.mem_cons, not_or] at h
    rw [List.cons_append, splitC, if_neg (fun e => h.1 e.symm), ih h.2]
theorem not_mem_idx (c : UInt8) (l : List UInt8) : c ∉ l.take (l.idxOf c) := by
  induction l with
  | nil => simp
  | cons x r ih =>
    rw [List.idxOf_cons]
    by_cases h : x = c
    · simp [h]
    · rw [show (x == c) = false by simpa using h, cond_false, List.take_succ_cons]
      simp only [List.mem_cons, not_or]
      exact ⟨fun e => h e.symm, ih⟩
theorem idx_split {c : UInt8} {l : List UInt8} (h : c ∈ l) : c ∉ l.take (l.idxOf c) ∧ l = l.take (l.idxOf c) ++ c :: l.drop (l.idxOf c + 1) ∧ l.idxOf c < l.length := by
  have hlt := List.idxOf_lt_length_of_mem h
  refine ⟨not_mem_idx c l, ?_, hlt⟩
  · conv => lhs; rw [← List.take_append_drop (l.idxOf c) l, List.drop_eq_getElem_cons hlt]
    rw [List.getElem_idxOf hlt]
theorem splitC_ix {c : UInt8} {l : List UInt8} (h : c ∈ l) : splitC c l = l.take (l.idxOf c) :: splitC c (l.drop (l.idxOf c + 1)) := by
  obtain ⟨h1, h2, _⟩ := idx_split h
  conv => lhs; rw [h2]
  exact splitC_app h1 _
def strLen : Value → Nat
  | .string b => b.size
  | _ => 0

end Go.Proofs.YteoljiclmhmbnaaDoor.Tx

/-
  The walks of zzLines and zzHasPrefix.
-/
set_option linter.unusedVariables false
set_option linter.unusedSimpArgs false
namespace Go.Proofs.YteoljiclmhmbnaaDoor.Tx
open Go.RowKit Go.Proofs.YteoljiclmhmbnaaDoor.K Go.Proofs.YteoljiclmhmbnaaDoorW.PrintWords

/-- A text's lines, as they stand. -/
def rawL (l : List UInt8) : List (List UInt8) :=
  if h : l = [] then [] else if 10 ∈ l then l.take (l.idxOf 10) :: rawL (l.drop (l.idxOf 10 + 1)) else [l]
termination_by l.length
decreasing_by
  have : 0 < l.length := List.length_pos_iff.2 h
  simp
  omega
theorem rawL_nil : rawL [] = [] := by rw [rawL]; simp
theorem rawL_no {l : List UInt8} (h : l ≠ []) (h2 : 10 ∉ l) : rawL l = [l] := by rw [rawL, dif_neg h, if_neg h2]
theorem rawL_ix {l : List UInt8} (h : l ≠ []) (h2 : 10 ∈ l) : rawL l = l.take (l.idxOf 10) :: rawL (l.drop (l.idxOf 10 + 1)) := by rw [rawL, dif_neg h, if_pos h2]
theorem rawL_app {a : List UInt8} (h : 10 ∉ a) (b : List UInt8) : rawL (a ++ 10 :: b) = a :: rawL b := by
  have hm : 10 ∈ a ++ 10 :: b := by simp
  have hi : (a ++ 10 :: b).idxOf 10 = a.length := by rw [List.idxOf_append, if_neg h, List.idxOf_cons_self]; simp
  rw [rawL_ix (by simp) hm, hi]
  simp
/-- A line without a return at its end. -/
def strip (l : List UInt8) : List UInt8 := if l.getLast? = some 13 then l.dropLast else l

theorem strip_nil : strip [] = [] := rfl
theorem last_at {x : List UInt8} {m : Nat} (h : x.length = m + 1) : x.getLast? = some (x[m]'(by omega)) := by
  rw [List.getLast?_eq_getElem?, show x.length - 1 = m by omega, List.getElem?_eq_getElem]
theorem ofL_get (x : List UInt8) (m : Nat) (h : m < x.length) : ((ofL x)[m]'(by rw [ofL_size]; exact h)) = x[m] := by
  simp [ofL, ByteArray.getElem_eq_getElem_data]
theorem strip_yes {x : List UInt8} {m : Nat} (h : x.length = m + 1) (h2 : x[m]'(by omega) = 13) : strip x = x.take m := by
  rw [strip, last_at h, h2, if_pos rfl, List.dropLast_eq_take, h, Nat.add_sub_cancel]
theorem strip_not {x : List UInt8} {m : Nat} (h : x.length = m + 1) (h2 : x[m]'(by omega) ≠ 13) : strip x = x := by
  rw [strip, last_at h, if_neg (by simpa using h2)]
end Go.Proofs.YteoljiclmhmbnaaDoor.Tx
