/-
  Keys' rests, plain: the characters at which they part, the groups behind each.
-/
import Derived.Test.YtjifoimkjgepcaaDt
set_option linter.unusedVariables false
set_option linter.unusedSimpArgs false
namespace Go.Proofs.Ytjifoimkjgepcaa.Da

def head1 : List Nat → Nat
  | [] => 0
  | a :: _ => a
def push (cs : List Nat) (c : Nat) : List Nat := if cs.getLast? = some c then cs else cs ++ [c]
def charsF (l : List Nat) : List Nat := l.foldl push []
theorem charsF_snoc (l : List Nat) (x : Nat) : charsF (l ++ [x]) = push (charsF l) x := by simp [charsF, List.foldl_append]
/-- The order of lists. -/
def leL : List Nat → List Nat → Prop
  | [], _ => True
  | _ :: _, [] => False
  | a :: s, b :: t => a < b ∨ (a = b ∧ leL s t)
theorem leL_head {s t : List Nat} (h : leL s t) : head1 s ≤ head1 t := by
  cases s with
  | nil => exact Nat.zero_le _
  | cons a s =>
    cases t with
    | nil => exact h.elim
    | cons b t => rcases h with h | ⟨h, _⟩ <;> simp only [head1] <;> omega
abbrev Srt (ks : Ks) : Prop := ks.Pairwise fun x y => leL x.1 y.1
theorem tails_cons_hit (ch : Nat) (s : List Nat) (id : Int) (r : Ks) : tails ch ((ch :: s, id) :: r) = (s, id) :: tails ch r := by simp [tails]
theorem mem_tails {ch : Nat} {ks : Ks} {s : List Nat} {id : Int} : (s, id) ∈ tails ch ks ↔ (ch :: s, id) ∈ ks := by
  induction ks with
  | nil => simp [tails]
  | cons x r ih =>
    obtain ⟨t, i⟩ := x
    cases t with
    | nil => simp [tails, ih]
    | cons a t =>
      simp only [tails]
      split
      · rename_i h
        subst h
        simp [ih]
      · rename_i h
        rw [ih]
        simp
        intro h1
        exact absurd h1.symm h
theorem srt_tails {ks : Ks} (h : Srt ks) (ch : Nat) : Srt (tails ch ks) := by
  induction ks with
  | nil => exact List.Pairwise.nil
  | cons x r ih =>
    obtain ⟨t, i⟩ := x
    obtain ⟨h1, h2⟩ := List.pairwise_cons.1 h
    cases t with
    | nil => exact ih h2
    | cons a t =>
      simp only [tails]
      split
      · rename_i he
        subst he
        refine List.pairwise_cons.2 ⟨?_, ih h2⟩
        rintro ⟨s, id⟩ hm
        have := h1 _ (mem_tails.1 hm)
        rcases this with h3 | ⟨_, h3⟩
        · exact absurd h3 (Nat.lt_irrefl _)
        · exact h3
      · exact ih h2
theorem firstE_some {ks : Ks} {id : Int} (h : firstE ks = some id) : ([], id) ∈ ks := by
  induction ks with
  | nil => cases h
  | cons x r ih =>
    obtain ⟨t, i⟩ := x
    cases t with
    | nil => simp [firstE] at h; simp [h]
    | cons a t => exact List.mem_cons_of_mem _ (ih h)
theorem firstE_none {ks : Ks} : firstE ks = none ↔ ∀ x ∈ ks, x.1 ≠ [] := by
  induction ks with
  | nil => simp [firstE]
  | cons x r ih =>
    obtain ⟨t, i⟩ := x
    cases t with
    | nil => simp [firstE]
    | cons a t => simp [firstE, ih]
/-- If some key ends here, the first one does. -/
theorem firstE_head {ks : Ks} (hs : Srt ks) (h : firstE ks ≠ none) : ∃ id r, ks = ([], id) :: r ∧ firstE ks = some id := by
  cases ks with
  | nil => exact absurd rfl h
  | cons x r =>
    obtain ⟨t, i⟩ := x
    cases t with
    | nil => exact ⟨i, r, rfl, rfl⟩
    | cons a t =>
      refine absurd (firstE_none.2 ?_) h
      rintro y hy
      rcases List.mem_cons.1 hy with rfl | hy
      · simp
      · have := (List.pairwise_cons.1 hs).1 y hy
        intro e
        rw [e] at this
        exact this
theorem snoc_ind {α : Type} {P : List α → Prop} (h0 : P []) (h1 : ∀ l x, P l → P (l ++ [x])) : ∀ l, P l := by
  intro l
  have : ∀ n (l : List α), l.length = n → P l := by
    intro n
    induction n with
    | zero => intro l hl; rw [List.eq_nil_of_length_eq_zero hl]; exact h0
    | succ n ih =>
      intro l hl
      have hne : l ≠ [] := by rintro rfl; simp at hl
      rw [← List.dropLast_concat_getLast hne]
      exact h1 _ _ (ih _ (by simp; omega))
  exact this _ l rfl
theorem mem_push {cs : List Nat} {c x : Nat} : x ∈ push cs c ↔ x ∈ cs ∨ x = c := by
  unfold push
  split
  · rename_i h
    have := List.mem_of_getLast? h
    constructor
    · exact .inl
    · rintro (h | rfl)
      · exact h
      · exact this
  · simp
theorem charsF_mem (l : List Nat) : ∀ c, c ∈ charsF l ↔ c ∈ l := by
  refine snoc_ind (P := fun l => ∀ c, c ∈ charsF l ↔ c ∈ l) (by simp [charsF]) ?_ l
  intro l x ih c
  rw [charsF_snoc, mem_push, ih]
  simp
/-- Of ascending numbers each once. -/
theorem charsF_asc (l : List Nat) (h : l.Pairwise (· ≤ ·)) : (charsF l).Pairwise (· < ·) ∧ (charsF l).getLast? = l.getLast? := by
  revert h
  refine snoc_ind (P := fun l => l.Pairwise (· ≤ ·) → (charsF l).Pairwise (· < ·) ∧ (charsF l).getLast? = l.getLast?) (fun _ => ⟨List.Pairwise.nil, rfl⟩) ?_ l
  intro l x ih h
  obtain ⟨h1, _, h2⟩ := List.pairwise_append.1 h
  obtain ⟨i1, i2⟩ := ih h1
  rw [charsF_snoc]
  unfold push
  split
  · rename_i he
    exact ⟨i1, by rw [he]; simp⟩
  · rename_i he
    refine ⟨List.pairwise_append.2 ⟨i1, List.pairwise_singleton _ _, ?_⟩, by simp⟩
    intro c hc d hd
    obtain rfl : d = x := by simpa using hd
    have hcl : c ∈ l := (charsF_mem l c).1 hc
    have hle := h2 c hcl d (by simp)
    refine Nat.lt_of_le_of_ne hle ?_
    rintro rfl
    -- the last one of l is at most x, and at least c
    refine he ?_
    rw [i2]
    cases hl : l.getLast? with
    | none => rw [List.getLast?_eq_none_iff] at hl; subst hl; cases hcl
    | some y =>
      have hy := List.mem_of_getLast? hl
      have h3 := h2 y hy c (by simp)
      have h4 : c ≤ y := by
        obtain ⟨ys, rfl⟩ := List.getLast?_eq_some_iff.1 hl
        rcases List.mem_append.1 hcl with hm | hm
        · exact (List.pairwise_append.1 h1).2.2 c hm y (by simp)
        · exact Nat.le_of_eq (by simpa using hm)
      rw [Nat.le_antisymm h3 h4]

/-- The characters at which keys' rests part. -/
def chars (ks : Ks) : List Nat := charsF (ks.map fun x => head1 x.1)
theorem srt_heads {ks : Ks} (h : Srt ks) : (ks.map fun x => head1 x.1).Pairwise (· ≤ ·) := by
  rw [List.pairwise_map]
  exact h.imp (fun hh => leL_head hh)
/-- Rests of keys are of bytes, none of them 0. -/
def Byt (ks : Ks) : Prop := ∀ x ∈ ks, ∀ a ∈ x.1, 1 ≤ a ∧ a ≤ 255
theorem byt_tails {ks : Ks} (h : Byt ks) (ch : Nat) : Byt (tails ch ks) := by
  rintro ⟨s, id⟩ hx a ha
  exact h _ (mem_tails.1 hx) a (List.mem_cons_of_mem _ ha)
theorem chars_asc {ks : Ks} (h : Srt ks) : (chars ks).Pairwise (· < ·) := (charsF_asc _ (srt_heads h)).1
theorem mem_chars {ks : Ks} {c : Nat} : c ∈ chars ks ↔ ∃ x ∈ ks, head1 x.1 = c := by
  unfold chars
  rw [charsF_mem, List.mem_map]
theorem chars_le {ks : Ks} (h : Byt ks) : ∀ c ∈ chars ks, c ≤ 255 := by
  intro c hc
  obtain ⟨⟨s, id⟩, hx, rfl⟩ := mem_chars.1 hc
  cases s with
  | nil => exact Nat.zero_le _
  | cons a s => exact (h _ hx a (by simp)).2
theorem chars_zero {ks : Ks} (h : Byt ks) : 0 ∈ chars ks ↔ firstE ks ≠ none := by
  rw [mem_chars]
  constructor
  · rintro ⟨⟨s, id⟩, hx, h0⟩ hn
    cases s with
    | nil => exact firstE_none.1 hn _ hx rfl
    | cons a s => have := (h _ hx a (by simp)).1; simp [head1] at h0; omega
  · intro hn
    cases hf : firstE ks with
    | none => exact absurd hf hn
    | some id => exact ⟨_, firstE_some hf, rfl⟩
theorem chars_kid {ks : Ks} {ch : Nat} (h1 : 1 ≤ ch) : ch ∈ chars ks ↔ tails ch ks ≠ [] := by
  rw [mem_chars]
  constructor
  · rintro ⟨⟨s, id⟩, hx, h0⟩ hn
    cases s with
    | nil => simp [head1] at h0; omega
    | cons a s =>
      simp [head1] at h0
      subst h0
      have := mem_tails.2 hx
      rw [hn] at this
      cases this
  · intro hn
    cases ht : tails ch ks with
    | nil => exact absurd ht hn
    | cons x r =>
      obtain ⟨s, id⟩ := x
      have : (s, id) ∈ tails ch ks := by rw [ht]; simp
      exact ⟨_, mem_tails.1 this, rfl⟩
theorem chars_ne {ks : Ks} (h : ks ≠ []) : 0 < (chars ks).length := by
  cases ks with
  | nil => exact absurd rfl h
  | cons x r => exact List.length_pos_of_mem (mem_chars.2 ⟨x, by simp, rfl⟩)
theorem asc_len {l : List Nat} (h : l.Pairwise (· < ·)) (N : Nat) (hb : ∀ c ∈ l, c ≤ N) : l.length ≤ N + 1 := by
  induction N generalizing l with
  | zero =>
    cases l with
    | nil => simp
    | cons a r =>
      cases r with
      | nil => simp
      | cons b r =>
        have h1 := (List.pairwise_cons.1 h).1 b (by simp)
        have h2 := hb b (by simp)
        omega
  | succ N ih =>
    revert h hb
    refine snoc_ind (P := fun l => l.Pairwise (· < ·) → (∀ c ∈ l, c ≤ N + 1) → l.length ≤ N + 1 + 1) (fun _ _ => by simp) ?_ l
    intro l x _ h hb
    obtain ⟨h1, _, h2⟩ := List.pairwise_append.1 h
    have := ih h1 (fun c hc => by have := h2 c hc x (by simp); have := hb x (by simp); omega)
    simp
    omega

/-- How many nodes are opened at most. -/
def cost : Ks → Nat
  | [] => 0
  | (s, _) :: r => s.length + cost r
theorem cost_tails_le (ch : Nat) (ks : Ks) : cost (tails ch ks) ≤ cost ks := by
  induction ks with
  | nil => exact Nat.le_refl _
  | cons x r ih =>
    obtain ⟨s, id⟩ := x
    cases s with
    | nil => simp [tails, cost]; exact ih
    | cons a s =>
      simp only [tails]
      split <;> simp [cost] <;> omega
/-- The rests that begin with none of some characters. -/
def without (done : List Nat) : Ks → Ks
  | [] => []
  | (s, id) :: r => match s with
    | [] => (s, id) :: without done r
    | a :: _ => if a ∈ done then without done r else (s, id) :: without done r
theorem cost_without (done : List Nat) (ch : Nat) (hn : ch ∉ done) (ks : Ks) (h1 : 1 ≤ ch) : cost (without (done ++ [ch]) ks) + cost (tails ch ks) + (tails ch ks).length = cost (without done ks) := by
  induction ks with
  | nil => rfl
  | cons x r ih =>
    obtain ⟨s, id⟩ := x
    cases s with
    | nil => simp [tails, without, cost]; omega
    | cons a s =>
      by_cases ha : a = ch
      · subst ha
        simp [tails, without, cost, hn]
        omega
      · by_cases hd : a ∈ done
        · simp [tails, without, hd, ha]
          omega
        · simp [tails, without, cost, hd, ha]
          omega
theorem cost_nil (ks : Ks) : cost (without [] ks) = cost ks := by
  induction ks with
  | nil => rfl
  | cons x r ih =>
    obtain ⟨s, id⟩ := x
    cases s <;> simp [without, cost, ih]
theorem without_snoc0 (done : List Nat) (ks : Ks) (hb : Byt ks) : without (done ++ [0]) ks = without done ks := by
  induction ks with
  | nil => rfl
  | cons x r ih =>
    obtain ⟨s, id⟩ := x
    have hr : Byt r := fun y hy => hb y (List.mem_cons_of_mem _ hy)
    cases s with
    | nil => simp [without, ih hr]
    | cons a s =>
      have : a ≠ 0 := by have := hb (a :: s, id) (by simp) a (by simp); omega
      simp [without, ih hr, this]
end Go.Proofs.Ytjifoimkjgepcaa.Da
