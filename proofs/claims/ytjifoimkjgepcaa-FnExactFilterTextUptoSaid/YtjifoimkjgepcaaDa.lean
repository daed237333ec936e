/-
  A double array, plain: its cells, the ring of its free cells, what taking a cell and growing do to it.
-/
import Derived.Lib.Hide
set_option linter.unusedVariables false
set_option linter.unusedSimpArgs false
namespace Go.Proofs.Ytjifoimkjgepcaa.Da

theorem least {P : Nat → Prop} : ∀ n, P n → ∃ m, P m ∧ ∀ k, P k → m ≤ k := by
  intro n
  induction n using Nat.strongRecOn with
  | ind n ih =>
    intro h
    by_cases hx : ∃ k, P k ∧ k < n
    · obtain ⟨k, hk, hl⟩ := hx
      exact ih k hl hk
    · exact ⟨n, h, fun k hk => Nat.le_of_not_lt fun hl => hx ⟨k, hk, hl⟩⟩
theorem most {P : Nat → Prop} (N : Nat) (hb : ∀ k, P k → k < N) (n : Nat) (h : P n) : ∃ m, P m ∧ ∀ k, P k → k ≤ m := by
  obtain ⟨m, ⟨a, ha, rfl⟩, hm⟩ := least (P := fun j => ∃ k, P k ∧ j = N - k) (N - n) ⟨n, h, rfl⟩
  refine ⟨a, ha, fun k hk => ?_⟩
  have := hm (N - k) ⟨k, hk, rfl⟩
  have := hb k hk
  have := hb a ha
  omega

structure DA where
  n : Nat
  b : Nat → Int
  c : Nat → Int
def upd (f : Nat → Int) (i : Nat) (v : Int) : Nat → Int := fun j => if j = i then v else f j
theorem upd_same (f : Nat → Int) (i : Nat) (v : Int) : upd f i v i = v := by simp [upd]
theorem upd_ne (f : Nat → Int) {i j : Nat} (v : Int) (h : j ≠ i) : upd f i v j = f j := by simp [upd, h]

/-- A free cell; a cell that is used (0 is the root). -/
def Fr (A : DA) (i : Nat) : Prop := 0 < i ∧ i < A.n ∧ A.c i < 0
def Us (A : DA) (i : Nat) : Prop := i < A.n ∧ (i = 0 ∨ 0 ≤ A.c i)
theorem fr_or_us {A : DA} {i : Nat} (h : i < A.n) : Fr A i ∨ Us A i := by
  unfold Fr Us
  by_cases h0 : i = 0
  · exact .inr ⟨h, .inl h0⟩
  · by_cases hc : A.c i < 0
    · exact .inl ⟨by omega, h, hc⟩
    · exact .inr ⟨h, .inr (by omega)⟩
theorem fr_not_us {A : DA} {i : Nat} (h : Fr A i) : ¬ Us A i := by
  unfold Fr at h; unfold Us
  omega
def First (A : DA) (f : Nat) : Prop := Fr A f ∧ ∀ r, Fr A r → f ≤ r
def Last (A : DA) (l : Nat) : Prop := Fr A l ∧ ∀ r, Fr A r → r ≤ l
/-- q stands behind p in the ring of free cells. -/
def Nx (A : DA) (p q : Nat) : Prop := Fr A p ∧ Fr A q ∧ ((p < q ∧ ∀ r, Fr A r → r ≤ p ∨ q ≤ r) ∨ ((∀ r, Fr A r → r ≤ p) ∧ ∀ r, Fr A r → q ≤ r))

structure Inv (A : DA) (M : Nat) : Prop where
  big : 51200 ≤ A.n
  bound : A.n ≤ 51200 ∨ A.n ≤ 2 * (M + 3)
  cap : M ≤ 268435456
  us : ∀ i, Us A i → i ≤ M
  b0 : A.b 0 = 1
  some : ∃ i, Fr A i
  ring : ∀ p q, Nx A p q → A.c p = -(q : Int) ∧ A.b q = -(p : Int)
  c0 : ∀ f, First A f → A.c 0 = -(f : Int)
  rb : ∀ i, i < A.n → -2147483647 ≤ A.b i ∧ A.b i ≤ 2147483647
  rc : ∀ i, i < A.n → -2147483647 ≤ A.c i ∧ A.c i ≤ 2147483647

theorem Inv.size {A : DA} {M : Nat} (h : Inv A M) : A.n ≤ 536870918 := by
  have := h.bound; have := h.cap; omega
theorem Inv.mono {A : DA} {M M' : Nat} (h : Inv A M) (hm : M ≤ M') (hc : M' ≤ 268435456) : Inv A M' :=
  { h with
    bound := by have := h.bound; omega
    cap := hc
    us := fun i hi => Nat.le_trans (h.us i hi) hm }
theorem fr_lt {A : DA} {i : Nat} (h : Fr A i) : i < A.n := h.2.1
theorem Inv.first {A : DA} {M : Nat} (h : Inv A M) : ∃ f, First A f := by
  obtain ⟨i, hi⟩ := h.some
  exact least i hi
theorem Inv.last {A : DA} {M : Nat} (h : Inv A M) : ∃ f, Last A f := by
  obtain ⟨i, hi⟩ := h.some
  exact most A.n (fun _ => fr_lt) i hi
theorem Inv.next {A : DA} {M : Nat} (h : Inv A M) {p : Nat} (hp : Fr A p) : ∃ q, Nx A p q := by
  by_cases hx : ∃ r, Fr A r ∧ p < r
  · obtain ⟨r, hr⟩ := hx
    obtain ⟨q, ⟨hq, hpq⟩, hl⟩ := least (P := fun r => Fr A r ∧ p < r) r hr
    refine ⟨q, hp, hq, .inl ⟨hpq, fun s hs => ?_⟩⟩
    by_cases hsp : s ≤ p
    · exact .inl hsp
    · exact .inr (hl s ⟨hs, by omega⟩)
  · obtain ⟨f, hf, hl⟩ := h.first
    exact ⟨f, hp, hf, .inr ⟨fun r hr => Nat.le_of_not_lt fun hh => hx ⟨r, hr, hh⟩, hl⟩⟩
theorem Inv.prev {A : DA} {M : Nat} (h : Inv A M) {q : Nat} (hq : Fr A q) : ∃ p, Nx A p q := by
  by_cases hx : ∃ r, Fr A r ∧ r < q
  · obtain ⟨r, hr⟩ := hx
    obtain ⟨p, ⟨hp, hpq⟩, hl⟩ := most (P := fun r => Fr A r ∧ r < q) A.n (fun k hk => fr_lt hk.1) r hr
    refine ⟨p, hp, hq, .inl ⟨hpq, fun s hs => ?_⟩⟩
    by_cases hsp : s < q
    · exact .inl (hl s ⟨hs, hsp⟩)
    · exact .inr (by omega)
  · obtain ⟨f, hf, hl⟩ := h.last
    exact ⟨f, hf, hq, .inr ⟨hl, fun r hr => Nat.le_of_not_lt fun hh => hx ⟨r, hr, hh⟩⟩⟩
theorem Inv.top {A : DA} {M : Nat} (h : Inv A M) {i : Nat} (h1 : M < i) (h2 : i < A.n) : Fr A i := by
  rcases fr_or_us h2 with hf | hu
  · exact hf
  · have := h.us i hu
    omega

/-- A free cell leaves the ring. -/
def take (A : DA) (p : Nat) (v : Int) : DA :=
  { n := A.n
    b := upd A.b (-A.c p).toNat (A.b p)
    c := upd (upd (if -(p : Int) = A.c 0 then upd A.c 0 (A.c p) else A.c) (-A.b p).toNat (A.c p)) p v }

section
variable {A : DA} {M p : Nat} {v : Int}
theorem take_c0 (h : Inv A M) (hp : Fr A p) (r s : Nat) (hr : Nx A r p) (hs : Nx A p s) (i : Nat) (hi : i ≠ 0) : (take A p v).c i = if i = p then v else if i = r then -(s : Int) else A.c i := by
  have e1 := (h.ring _ _ hr).2
  have e2 := (h.ring _ _ hs).1
  unfold take
  simp only
  rw [e1, e2]
  simp only [Int.neg_neg, Int.toNat_natCast]
  unfold upd
  by_cases h1 : i = p
  · simp [h1]
  · by_cases h2 : i = r
    · simp [h1, h2]
    · simp [h1, h2]
      split <;> simp [hi]
theorem take_b0 (h : Inv A M) (hp : Fr A p) (r s : Nat) (hr : Nx A r p) (hs : Nx A p s) (i : Nat) : (take A p v).b i = if i = s then -(r : Int) else A.b i := by
  have e1 := (h.ring _ _ hr).2
  have e2 := (h.ring _ _ hs).1
  unfold take
  simp only
  rw [e1, e2]
  simp only [Int.neg_neg, Int.toNat_natCast]
  rfl
theorem nx_inj (h : Inv A M) {p q q' : Nat} (h1 : Nx A p q) (h2 : Nx A p q') : q = q' := by
  have := (h.ring _ _ h1).1
  have := (h.ring _ _ h2).1
  omega
theorem nx_inj' (h : Inv A M) {p p' q : Nat} (h1 : Nx A p q) (h2 : Nx A p' q) : p = p' := by
  have := (h.ring _ _ h1).2
  have := (h.ring _ _ h2).2
  omega
theorem take_fr (h : Inv A M) (hp : Fr A p) (hne : A.b p ≠ A.c p) (hv : 0 ≤ v) (i : Nat) : Fr (take A p v) i ↔ Fr A i ∧ i ≠ p := by
  obtain ⟨r, hr⟩ := h.prev hp
  obtain ⟨s, hs⟩ := h.next hp
  by_cases h0 : i = 0
  · subst h0
    simp [Fr]
  · have e := take_c0 (v := v) h hp r s hr hs i h0
    unfold Fr
    rw [e]
    show _ ∧ i < A.n ∧ _ ↔ _
    have hs0 := hs.2.1.1
    by_cases h1 : i = p
    · simp [h1]; omega
    · by_cases h2 : i = r
      · subst h2
        have := hr.1
        unfold Fr at this
        simp [h1]
        omega
      · simp [h1, h2]
theorem nx_take (h : Inv A M) (hp : Fr A p) (hne : A.b p ≠ A.c p) (hv : 0 ≤ v) {r s x y : Nat} (hr : Nx A r p) (hs : Nx A p s) (hxy : Nx (take A p v) x y) :
    (x = r ∧ y = s) ∨ (Nx A x y ∧ x ≠ p ∧ y ≠ p ∧ x ≠ r ∧ y ≠ s) := by
  have F := take_fr (v := v) h hp hne hv
  obtain ⟨hx, hy, ho⟩ := hxy
  rw [F] at hx hy
  by_cases hn : Nx A x y
  · refine .inr ⟨hn, hx.2, hy.2, ?_, ?_⟩
    · rintro rfl
      exact hy.2 (nx_inj h hn hr)
    · rintro rfl
      exact hx.2 (nx_inj' h hn hs)
  · left
    rcases ho with ⟨hlt, hb⟩ | ⟨hb1, hb2⟩
    · -- p lies between them
      have hbt : x < p ∧ p < y := by
        rcases Nat.lt_or_ge x p with h1 | h1
        · rcases Nat.lt_or_ge p y with h2 | h2
          · exact ⟨h1, h2⟩
          · refine absurd ⟨hx.1, hy.1, .inl ⟨hlt, fun t ht => ?_⟩⟩ hn
            by_cases e : t = p
            · right; omega
            · exact hb t ((F t).2 ⟨ht, e⟩)
        · refine absurd ⟨hx.1, hy.1, .inl ⟨hlt, fun t ht => ?_⟩⟩ hn
          by_cases e : t = p
          · left; omega
          · exact hb t ((F t).2 ⟨ht, e⟩)
      have n1 : Nx A x p := ⟨hx.1, hp, .inl ⟨hbt.1, fun t ht => by
        by_cases e : t = p
        · right; omega
        · have := hb t ((F t).2 ⟨ht, e⟩); omega⟩⟩
      have n2 : Nx A p y := ⟨hp, hy.1, .inl ⟨hbt.2, fun t ht => by
        by_cases e : t = p
        · left; omega
        · have := hb t ((F t).2 ⟨ht, e⟩); omega⟩⟩
      exact ⟨nx_inj' h n1 hr, nx_inj h n2 hs⟩
    · -- the ring's end
      have hb1' : ∀ t, Fr A t → t ≤ x ∨ t = p := fun t ht => by
        by_cases e : t = p
        · exact .inr e
        · exact .inl (hb1 t ((F t).2 ⟨ht, e⟩))
      have hb2' : ∀ t, Fr A t → y ≤ t ∨ t = p := fun t ht => by
        by_cases e : t = p
        · exact .inr e
        · exact .inl (hb2 t ((F t).2 ⟨ht, e⟩))
      have hyx : y ≤ x := by rcases hb2' x hx.1 with h' | h' <;> first | exact h' | exact absurd h' hx.2
      rcases Nat.lt_or_ge x p with h1 | h1
      · have n1 : Nx A x p := ⟨hx.1, hp, .inl ⟨h1, fun t ht => by rcases hb1' t ht with h' | h' <;> omega⟩⟩
        have n2 : Nx A p y := ⟨hp, hy.1, .inr ⟨fun t ht => by rcases hb1' t ht with h' | h' <;> omega, fun t ht => by rcases hb2' t ht with h' | h' <;> omega⟩⟩
        exact ⟨nx_inj' h n1 hr, nx_inj h n2 hs⟩
      · have h1' : p < x := by have := hx.2; omega
        rcases Nat.lt_or_ge p y with h2 | h2
        · have n1 : Nx A x p := ⟨hx.1, hp, .inr ⟨fun t ht => by rcases hb1' t ht with h' | h' <;> omega, fun t ht => by rcases hb2' t ht with h' | h' <;> omega⟩⟩
          have n2 : Nx A p y := ⟨hp, hy.1, .inl ⟨h2, fun t ht => by rcases hb2' t ht with h' | h' <;> omega⟩⟩
          exact ⟨nx_inj' h n1 hr, nx_inj h n2 hs⟩
        · refine absurd ⟨hx.1, hy.1, .inr ⟨fun t ht => ?_, fun t ht => ?_⟩⟩ hn
          · rcases hb1' t ht with h' | h' <;> omega
          · rcases hb2' t ht with h' | h' <;> omega
theorem take_zero (h : Inv A M) (hp : Fr A p) {r s : Nat} (hr : Nx A r p) (hs : Nx A p s) : (take A p v).c 0 = if -(p : Int) = A.c 0 then -(s : Int) else A.c 0 := by
  have e1 := (h.ring _ _ hr).2
  have e2 := (h.ring _ _ hs).1
  have h1 := hr.1.1
  have h2 := hp.1
  unfold take
  simp only
  rw [e1, e2]
  simp only [Int.neg_neg, Int.toNat_natCast]
  rw [upd_ne _ _ (by omega), upd_ne _ _ (by omega)]
  split
  · rw [upd_same]
  · rfl
/-- What taking a cell does. -/
theorem take_inv (h : Inv A M) (hp : Fr A p) (hne : A.b p ≠ A.c p) (hv : 0 ≤ v) (hv2 : v ≤ 2147483647) (hM : p ≤ M) : Inv (take A p v) M := by
  obtain ⟨r, hr⟩ := h.prev hp
  obtain ⟨s, hs⟩ := h.next hp
  have F := take_fr (v := v) h hp hne hv
  have ep := (h.ring _ _ hr).2
  have es := (h.ring _ _ hs).1
  have hrs : r ≠ s := by rintro rfl; exact hne (by rw [ep, es])
  have hrp : r ≠ p := by
    rintro rfl
    exact hrs (nx_inj h hr hs)
  have hsp : s ≠ p := by
    rintro rfl
    exact hrp (nx_inj' h hr hs)
  have hsz := h.size
  refine { big := h.big, bound := h.bound, cap := h.cap, us := ?_, b0 := ?_, some := ⟨s, (F s).2 ⟨hs.2.1, hsp⟩⟩, ring := ?_, c0 := ?_, rb := ?_, rc := ?_ }
  · intro i hi
    rcases fr_or_us (A := A) (i := i) hi.1 with hf | hu
    · by_cases e : i = p
      · omega
      · exact absurd hi (fr_not_us ((F i).2 ⟨hf, e⟩))
    · exact h.us i hu
  · rw [take_b0 h hp r s hr hs, if_neg (by have := hs.2.1.1; omega)]
    exact h.b0
  · intro x y hxy
    have hx0 : x ≠ 0 := by have := hxy.1.1; omega
    rw [take_b0 h hp r s hr hs, take_c0 h hp r s hr hs x hx0]
    rcases nx_take h hp hne hv hr hs hxy with ⟨rfl, rfl⟩ | ⟨hn, h1, h2, h3, h4⟩
    · rw [if_neg hrp, if_pos rfl, if_pos rfl]
      exact ⟨rfl, rfl⟩
    · rw [if_neg h1, if_neg h3, if_neg h4]
      exact h.ring _ _ hn
  · intro f hf
    rw [take_zero h hp hr hs]
    have hfF := (F f).1 hf.1
    obtain ⟨g, hg⟩ := h.first
    have e0 := h.c0 g hg
    by_cases e : p = g
    · subst e
      rw [e0, if_pos rfl]
      -- s is the first one now
      have : s = f := by
        have h1 := hf.2 s ((F s).2 ⟨hs.2.1, hsp⟩)
        have h2 := hg.2 f hfF.1
        rcases hs.2.2 with ⟨h3, h4⟩ | ⟨h3, h4⟩
        · rcases h4 f hfF.1 with h5 | h5
          · have := hfF.2; omega
          · omega
        · have := h4 p hp
          have := hg.2 s hs.2.1
          have := hfF.2
          have := h3 f hfF.1
          omega
      rw [this]
    · rw [if_neg (by omega), e0]
      have h1 := hf.2 g ((F g).2 ⟨hg.1, fun e' => e e'.symm⟩)
      have h2 := hg.2 f hfF.1
      omega
  · intro i hi
    have hi' : i < A.n := hi
    rw [take_b0 h hp r s hr hs]
    split
    · have := fr_lt hr.1; omega
    · exact h.rb i hi'
  · intro i hi
    have hi' : i < A.n := hi
    by_cases h0 : i = 0
    · subst h0
      rw [take_zero h hp hr hs]
      split
      · have := fr_lt hs.2.1; omega
      · exact h.rc 0 hi'
    · rw [take_c0 h hp r s hr hs i h0]
      split
      · omega
      · split
        · have := fr_lt hs.2.1; omega
        · exact h.rc i hi'
theorem take_us (h : Inv A M) (hp : Fr A p) (hne : A.b p ≠ A.c p) (hv : 0 ≤ v) (i : Nat) : Us (take A p v) i ↔ Us A i ∨ i = p := by
  have F := take_fr (v := v) h hp hne hv i
  have hn : (take A p v).n = A.n := rfl
  constructor
  · intro hu
    rcases fr_or_us (A := A) (i := i) hu.1 with hf | hu'
    · by_cases e : i = p
      · exact .inr e
      · exact absurd hu (fr_not_us (F.2 ⟨hf, e⟩))
    · exact .inl hu'
  · intro hu
    have hi : i < A.n := by
      rcases hu with hu | rfl
      · exact hu.1
      · exact fr_lt hp
    rcases fr_or_us (A := take A p v) (i := i) hi with hf | hu'
    · have := F.1 hf
      rcases hu with hu | rfl
      · exact absurd hu (fr_not_us this.1)
      · exact absurd rfl this.2
    · exact hu'
theorem take_old (h : Inv A M) (hp : Fr A p) {i : Nat} (hu : Us A i) : (i ≠ 0 → (take A p v).c i = A.c i) ∧ (take A p v).b i = A.b i := by
  obtain ⟨r, hr⟩ := h.prev hp
  obtain ⟨s, hs⟩ := h.next hp
  have h1 : i ≠ p := by rintro rfl; exact fr_not_us hp hu
  have h2 : i ≠ r := by rintro rfl; exact fr_not_us hr.1 hu
  have h3 : i ≠ s := by rintro rfl; exact fr_not_us hs.2.1 hu
  refine ⟨fun h0 => ?_, ?_⟩
  · rw [take_c0 h hp r s hr hs i h0, if_neg h1, if_neg h2]
  · rw [take_b0 h hp r s hr hs, if_neg h3]
theorem take_self (h : Inv A M) (hp : Fr A p) (hne : A.b p ≠ A.c p) : (take A p v).c p = v ∧ (take A p v).b p < 0 := by
  obtain ⟨r, hr⟩ := h.prev hp
  obtain ⟨s, hs⟩ := h.next hp
  have ep := (h.ring _ _ hr).2
  have es := (h.ring _ _ hs).1
  have hsp : s ≠ p := by
    rintro rfl
    have := nx_inj' h hr hs
    exact hne (by rw [ep, es, this])
  have hp0 := hp.1
  refine ⟨?_, ?_⟩
  · rw [take_c0 h hp r s hr hs p (by omega), if_pos rfl]
  · rw [take_b0 h hp r s hr hs, if_neg (fun e => hsp e.symm), ep]
    have := hr.1.1
    omega
/-- If a free cell has the same one ahead and behind, few are free. -/
theorem few_free (h : Inv A M) (hp : Fr A p) (he : A.b p = A.c p) : A.n ≤ M + 3 := by
  obtain ⟨r, hr⟩ := h.prev hp
  obtain ⟨s, hs⟩ := h.next hp
  have ep := (h.ring _ _ hr).2
  have es := (h.ring _ _ hs).1
  have hrs : r = s := by omega
  subst hrs
  refine Nat.le_of_not_lt fun hgt => ?_
  have f1 := h.top (i := A.n - 1) (by omega) (by have := h.big; omega)
  have f2 := h.top (i := A.n - 2) (by omega) (by have := h.big; omega)
  have f3 := h.top (i := A.n - 3) (by omega) (by have := h.big; omega)
  have hb := h.big
  have hpn := fr_lt hp
  have hrn := fr_lt hr.1
  rcases hr.2.2 with ⟨h1, h2⟩ | ⟨h1, h2⟩
  · rcases hs.2.2 with ⟨h3, h4⟩ | ⟨h3, h4⟩
    · omega
    · have := h4 _ f3; have := h3 _ f1; have := h2 _ f2; omega
  · have := h1 _ f1
    have := h2 _ f3
    rcases hs.2.2 with ⟨h3, h4⟩ | ⟨h3, h4⟩
    · have := h4 _ f2; omega
    · have := h3 _ f1; omega
end
end Go.Proofs.Ytjifoimkjgepcaa.Da
