/-
  A double array, plain: growing, a fresh one, the search for a place.
-/
import Derived.Test.YtjifoimkjgepcaaDa
set_option linter.unusedVariables false
set_option linter.unusedSimpArgs false
namespace Go.Proofs.Ytjifoimkjgepcaa.Da

/-- Twice as many cells; the new ones free, behind the others in the ring. -/
def grown (A : DA) : DA :=
  { n := 2 * A.n
    b := upd (upd (fun i => if i < A.n then A.b i else -((i : Int) - 1)) A.n (A.b (-A.c 0).toNat)) (-A.c 0).toNat (-(((2 * A.n : Nat) : Int) - 1))
    c := upd (upd (fun i => if i < A.n then A.c i else -((i : Int) + 1)) (-A.b (-A.c 0).toNat).toNat (-(A.n : Int))) (2 * A.n - 1) (A.c 0) }

section
variable {A : DA} {M : Nat}
theorem ends (h : Inv A M) {f l : Nat} (hf : First A f) (hl : Last A l) : A.c 0 = -(f : Int) ∧ A.b f = -(l : Int) ∧ A.c l = -(f : Int) := by
  have := h.ring l f ⟨hl.1, hf.1, .inr ⟨hl.2, hf.2⟩⟩
  exact ⟨h.c0 f hf, this.2, this.1⟩
theorem grown_b (h : Inv A M) {f l : Nat} (hf : First A f) (hl : Last A l) (i : Nat) : (grown A).b i = if i = f then -(((2 * A.n : Nat) : Int) - 1) else if i < A.n then A.b i else if i = A.n then -(l : Int) else -((i : Int) - 1) := by
  obtain ⟨e0, e1, e2⟩ := ends h hf hl
  have := fr_lt hf.1
  unfold grown
  simp only
  rw [e0]
  simp only [Int.neg_neg, Int.toNat_natCast]
  unfold upd
  by_cases h1 : i = f
  · simp [h1]
  · simp only [if_neg h1]
    by_cases h2 : i = A.n
    · subst h2
      simp [e1]
    · simp [h2]
theorem grown_c (h : Inv A M) {f l : Nat} (hf : First A f) (hl : Last A l) (i : Nat) : (grown A).c i = if i = l then -(A.n : Int) else if i < A.n then A.c i else if i = 2 * A.n - 1 then -(f : Int) else -((i : Int) + 1) := by
  obtain ⟨e0, e1, e2⟩ := ends h hf hl
  have := fr_lt hf.1
  have hln := fr_lt hl.1
  have hb := h.big
  unfold grown
  simp only
  rw [e0]
  simp only [Int.neg_neg, Int.toNat_natCast]
  rw [e1]
  simp only [Int.neg_neg, Int.toNat_natCast]
  unfold upd
  by_cases h1 : i = 2 * A.n - 1
  · rw [if_pos h1, if_neg (by omega), if_neg (by omega), if_pos h1]
  · rw [if_neg h1]
    split
    · rfl
    · rfl
theorem grown_fr (h : Inv A M) (i : Nat) : Fr (grown A) i ↔ Fr A i ∨ (A.n ≤ i ∧ i < 2 * A.n) := by
  obtain ⟨f, hf⟩ := h.first
  obtain ⟨l, hl⟩ := h.last
  have e := grown_c h hf hl i
  have hb := h.big
  have hfn := fr_lt hf.1
  have hln := fr_lt hl.1
  have hf0 := hf.1.1
  unfold Fr
  rw [e]
  show _ ∧ i < 2 * A.n ∧ _ ↔ _
  by_cases h1 : i = l
  · subst h1
    have := hl.1
    unfold Fr at this
    rw [if_pos rfl]
    omega
  · rw [if_neg h1]
    by_cases h2 : i < A.n
    · rw [if_pos h2]; omega
    · rw [if_neg h2]
      split <;> omega
theorem grown_us (h : Inv A M) (i : Nat) : Us (grown A) i ↔ Us A i := by
  have F := grown_fr h i
  have hb := h.big
  have hn : (grown A).n = 2 * A.n := rfl
  constructor
  · intro hu
    have h1 := hu.1
    rw [hn] at h1
    by_cases h2 : i < A.n
    · rcases fr_or_us h2 with hf | hu'
      · exact absurd hu (fr_not_us (F.2 (.inl hf)))
      · exact hu'
    · exact absurd hu (fr_not_us (F.2 (.inr ⟨by omega, h1⟩)))
  · intro hu
    have h1 := hu.1
    rcases fr_or_us (A := grown A) (i := i) (by rw [hn]; omega) with hf | hu'
    · rcases F.1 hf with h2 | h2
      · exact absurd hu (fr_not_us h2)
      · omega
    · exact hu'
theorem grown_old (h : Inv A M) {i : Nat} (hu : Us A i) : (grown A).c i = A.c i ∧ (grown A).b i = A.b i := by
  obtain ⟨f, hf⟩ := h.first
  obtain ⟨l, hl⟩ := h.last
  have h1 : i ≠ f := by rintro rfl; exact fr_not_us hf.1 hu
  have h2 : i ≠ l := by rintro rfl; exact fr_not_us hl.1 hu
  rw [grown_c h hf hl, grown_b h hf hl, if_neg h2, if_neg h1, if_pos hu.1, if_pos hu.1]
  exact ⟨rfl, rfl⟩
theorem grown_inv (h : Inv A M) (hM : A.n ≤ M + 3) : Inv (grown A) M := by
  obtain ⟨f, hf⟩ := h.first
  obtain ⟨l, hl⟩ := h.last
  have hb := h.big
  have hfn := fr_lt hf.1
  have hln := fr_lt hl.1
  have hf0 := hf.1.1
  have F := grown_fr h
  have hn : (grown A).n = 2 * A.n := rfl
  have hsz := h.size
  have hcap := h.cap
  refine { big := by omega, bound := .inr (by omega), cap := h.cap, us := fun i hi => h.us i ((grown_us h i).1 hi), b0 := ?_, some := ⟨f, (F f).2 (.inl hf.1)⟩, ring := ?_, c0 := ?_, rb := ?_, rc := ?_ }
  · rw [grown_b h hf hl, if_neg (by omega), if_pos (by omega)]
    exact h.b0
  · intro p q hpq
    obtain ⟨hp, hq, ho⟩ := hpq
    have hp' := (F p).1 hp
    have hq' := (F q).1 hq
    rw [grown_b h hf hl, grown_c h hf hl]
    rcases ho with ⟨hlt, hbt⟩ | ⟨h1, h2⟩
    · rcases hp' with hp' | hp'
      · by_cases hpl : p = l
        · -- the last one: the first new one follows
          have hqn : q = A.n := by
            rcases hbt A.n ((F A.n).2 (.inr ⟨by omega, by omega⟩)) with h3 | h3
            · have := fr_lt hp'; omega
            · rcases hq' with hq' | hq'
              · have := hl.2 q hq'; omega
              · omega
          rw [if_pos hpl, if_neg (by omega), if_neg (by omega), if_pos hqn, hqn, hpl]
          exact ⟨rfl, rfl⟩
        · have hpl' : p < l := by have := hl.2 p hp'; omega
          have hqA : Fr A q := by
            rcases hq' with hq' | hq'
            · exact hq'
            · rcases hbt l ((F l).2 (.inl hl.1)) with h3 | h3 <;> omega
          have hqf : q ≠ f := by have := hf.2 p hp'; omega
          rw [if_neg hpl, if_pos (fr_lt hp'), if_neg hqf, if_pos (fr_lt hqA)]
          refine h.ring p q ⟨hp', hqA, .inl ⟨hlt, fun r hr => hbt r ((F r).2 (.inl hr))⟩⟩
      · -- two new ones
        have hqn : q = p + 1 := by
          rcases Nat.lt_or_ge (p + 1) (2 * A.n) with h3 | h3
          · rcases hbt (p + 1) ((F (p + 1)).2 (.inr ⟨by omega, h3⟩)) with h4 | h4 <;> omega
          · rcases hq' with hq' | hq'
            · have := fr_lt hq'; omega
            · omega
        have hq2 : q < 2 * A.n := by
          rcases hq' with hq' | hq'
          · have := fr_lt hq'; omega
          · omega
        rw [if_neg (by omega), if_neg (by omega), if_neg (by omega), if_neg (by omega), if_neg (by omega), if_neg (by omega)]
        omega
    · have hqf : q = f := by
        have := h2 f ((F f).2 (.inl hf.1))
        rcases hq' with hq' | hq'
        · have := hf.2 q hq'; omega
        · omega
      have hpe : p = 2 * A.n - 1 := by
        have := h1 (2 * A.n - 1) ((F _).2 (.inr ⟨by omega, by omega⟩))
        rcases hp' with hp' | hp'
        · have := fr_lt hp'; omega
        · omega
      rw [if_neg (by omega), if_neg (by omega), if_pos hpe, if_pos hqf, hqf]
      refine ⟨rfl, ?_⟩
      omega
  · intro g hg
    have hgf : g = f := by
      have h1 := hg.2 f ((F f).2 (.inl hf.1))
      rcases (F g).1 hg.1 with h2 | h2
      · have := hf.2 g h2; omega
      · omega
    rw [grown_c h hf hl, if_neg (by have := hl.1.1; omega), if_pos (by omega), h.c0 f hf, hgf]
  · intro i hi
    rw [hn] at hi
    rw [grown_b h hf hl]
    split
    · omega
    · split
      · rename_i h2
        exact h.rb i h2
      · split <;> omega
  · intro i hi
    rw [hn] at hi
    rw [grown_c h hf hl]
    split
    · omega
    · split
      · rename_i h2
        exact h.rc i h2
      · split <;> omega
theorem grown_not_last (h : Inv A M) {f : Nat} (hf : Fr A f) : ¬ Last (grown A) f := by
  intro hl
  have := hl.2 (2 * A.n - 1) ((grown_fr h _).2 (.inr ⟨by have := h.big; omega, by have := h.big; omega⟩))
  have := fr_lt hf
  omega

/-- A fresh array of n cells. -/
def fresh (n : Nat) : DA :=
  { n := n
    b := fun i => if i = 0 then 1 else if i = 1 then -((n : Int) - 1) else -((i : Int) - 1)
    c := fun i => if i = 0 then -1 else if i = n - 1 then -1 else -((i : Int) + 1) }
theorem fresh_fr (n : Nat) (i : Nat) : Fr (fresh n) i ↔ 0 < i ∧ i < n := by
  unfold Fr fresh
  simp only
  constructor
  · rintro ⟨h1, h2, _⟩; exact ⟨h1, h2⟩
  · rintro ⟨h1, h2⟩
    refine ⟨h1, h2, ?_⟩
    split
    · omega
    · split <;> omega
theorem fresh_us (n : Nat) (i : Nat) : Us (fresh n) i → i = 0 := by
  intro h
  by_cases h0 : i = 0
  · exact h0
  · exact absurd h (fr_not_us ((fresh_fr n i).2 ⟨by omega, h.1⟩))
theorem fresh_inv : Inv (fresh 51200) 0 := by
  have F := fresh_fr 51200
  refine { big := by decide, bound := .inl (by decide), cap := by decide, us := fun i hi => by rw [fresh_us _ i hi]; exact Nat.le_refl _, b0 := rfl, some := ⟨1, (F 1).2 (by decide)⟩, ring := ?_, c0 := ?_, rb := ?_, rc := ?_ }
  · rintro p q ⟨hp, hq, ho⟩
    have hp' := (F p).1 hp
    have hq' := (F q).1 hq
    show (if p = 0 then (-1 : Int) else if p = 51200 - 1 then -1 else -((p : Int) + 1)) = _ ∧ (if q = 0 then (1 : Int) else if q = 1 then -(((51200 : Nat) : Int) - 1) else -((q : Int) - 1)) = _
    rcases ho with ⟨hlt, hb⟩ | ⟨h1, h2⟩
    · have : q = p + 1 := by
        rcases hb (p + 1) ((F _).2 (by omega)) with h | h <;> omega
      rw [if_neg (by omega), if_neg (by omega), if_neg (by omega), if_neg (by omega)]
      omega
    · have := h1 51199 ((F _).2 (by omega))
      have := h2 1 ((F _).2 (by omega))
      have e1 : p = 51199 := by omega
      have e2 : q = 1 := by omega
      subst e1 e2
      decide
  · intro f hf
    have h1 := hf.2 1 ((F _).2 (by omega))
    have h2 := (F f).1 hf.1
    have : f = 1 := by omega
    subst this
    rfl
  · intro i hi
    have hi' : i < 51200 := hi
    show _ ≤ (if i = 0 then (1 : Int) else if i = 1 then -(((51200 : Nat) : Int) - 1) else -((i : Int) - 1)) ∧ (if i = 0 then (1 : Int) else if i = 1 then -(((51200 : Nat) : Int) - 1) else -((i : Int) - 1)) ≤ _
    split
    · decide
    · split <;> omega
  · intro i hi
    have hi' : i < 51200 := hi
    show _ ≤ (if i = 0 then (-1 : Int) else if i = 51200 - 1 then -1 else -((i : Int) + 1)) ∧ (if i = 0 then (-1 : Int) else if i = 51200 - 1 then -1 else -((i : Int) + 1)) ≤ _
    split
    · decide
    · split <;> omega

/-- The search stands at 0 or at a free cell; whether that is the last one. -/
def At (A : DA) (f : Nat) : Prop := f = 0 ∨ Fr A f
theorem at_last (h : Inv A M) {f : Nat} (hf : Fr A f) : A.c f = A.c 0 ↔ Last A f := by
  obtain ⟨g, hg⟩ := h.first
  obtain ⟨l, hl⟩ := h.last
  obtain ⟨e0, e1, e2⟩ := ends h hg hl
  constructor
  · intro he
    obtain ⟨s, hs⟩ := h.next hf
    have := (h.ring _ _ hs).1
    have hsg : s = g := by omega
    subst hsg
    rcases hs.2.2 with ⟨h1, h2⟩ | ⟨h1, h2⟩
    · have := hg.2 f hf; omega
    · exact ⟨hf, h1⟩
  · intro hf'
    have : f = l := by have := hf'.2 l hl.1; have := hl.2 f hf; omega
    rw [this, e2, e0]
/-- From a cell that is not the last one, or from 0, the search goes on to the next free cell. -/
theorem seek_next (h : Inv A M) {f rep : Nat} (ha : At A f) (hf : f ≤ max M rep) (hr : rep ≤ 255) (hn : f ≠ 0 → ¬ Last A f) : ∃ g : Nat, A.c f = -(g : Int) ∧ Fr A g ∧ f < g ∧ g ≤ max M rep + 1 := by
  have key : ∀ g, Fr A g → f < g → (∀ r, Fr A r → r ≤ f ∨ g ≤ r) → g ≤ max M rep + 1 := by
    intro g hg hlt hb
    by_cases hx : max M rep + 1 < A.n
    · rcases hb _ (h.top (i := max M rep + 1) (by omega) hx) with h1 | h1 <;> omega
    · have := fr_lt hg; omega
  by_cases h0 : f = 0
  · subst h0
    obtain ⟨g, hg⟩ := h.first
    exact ⟨g, h.c0 g hg, hg.1, hg.1.1, key g hg.1 hg.1.1 (fun r hr => .inr (hg.2 r hr))⟩
  · rcases ha with ha | ha
    · exact absurd ha h0
    · obtain ⟨g, hg⟩ := h.next ha
      rcases hg.2.2 with ⟨h1, h2⟩ | ⟨h1, h2⟩
      · exact ⟨g, (h.ring _ _ hg).1, hg.2.1, h1, key g hg.2.1 h1 h2⟩
      · exact absurd ⟨ha, h1⟩ (hn h0)
/-- At the last one, where the search has failed so far, few are free. -/
theorem seek_wrap (h : Inv A M) {f rep : Nat} (hl : Last A f) (hf : f ≤ max M rep) (hr : rep ≤ 255) : A.n ≤ M + 3 := by
  refine Nat.le_of_not_lt fun hgt => ?_
  have hb := h.big
  have := hl.2 _ (h.top (i := A.n - 1) (by omega) (by omega))
  omega
end
/-- Characters from a base on are free, or lie beyond. -/
def Fits (A : DA) (base : Nat) (chars : List Nat) : Prop := ∀ ch ∈ chars, A.n ≤ base + ch ∨ Fr A (base + ch)
end Go.Proofs.Ytjifoimkjgepcaa.Da
