/-
  Sentences, told of characters. No program in sight.
-/
import Derived.Test.YtaniafohcaiedaaDoorSk
set_option linter.unusedVariables false
set_option linter.unusedSimpArgs false
namespace Go.Proofs.YtaniafohcaiedaaDoor.Sn
open Go.RowKit Go.Proofs.YtaniafohcaiedaaDoor.K Go.Proofs.YtaniafohcaiedaaDoorW.PrintWords
open Go.Lib (decodeL encodeRune decodeN)

/-! ### Texts that are joined -/
theorem decodeN_mono {n n' b0 b1 b2 b3 c1 c2 c3 : Nat} (hn : n ≤ n') (h1 : 1 < n → c1 = b1) (h2 : 2 < n → c2 = b2) (h3 : 3 < n → c3 = b3) (hr : (decodeN n b0 b1 b2 b3).1 ≠ 65533) : decodeN n' b0 c1 c2 c3 = decodeN n b0 b1 b2 b3 := by
  unfold decodeN at hr ⊢
  by_cases k : b0 < 128
  · rw [if_pos k, if_pos k]
  rw [if_neg k] at hr
  rw [if_neg k, if_neg k]
  by_cases k2 : b0 / 32 = 6 ∧ (1 < n ∧ b1 / 64 = 2)
  · have e1 := h1 k2.2.1
    subst e1
    rw [if_pos k2, if_pos (show b0 / 32 = 6 ∧ (1 < n' ∧ c1 / 64 = 2) from ⟨k2.1, by omega, k2.2.2⟩)]
  rw [if_neg k2] at hr
  rw [if_neg k2]
  by_cases k3 : b0 / 16 = 14 ∧ (1 < n ∧ b1 / 64 = 2) ∧ (2 < n ∧ b2 / 64 = 2)
  · have e1 := h1 k3.2.1.1
    have e2 := h2 k3.2.2.1
    subst e1 e2
    rw [if_pos k3, if_neg (show ¬ (b0 / 32 = 6 ∧ (1 < n' ∧ c1 / 64 = 2)) by omega), if_pos (show b0 / 16 = 14 ∧ (1 < n' ∧ c1 / 64 = 2) ∧ (2 < n' ∧ c2 / 64 = 2) by omega)]
  rw [if_neg k3] at hr
  rw [if_neg k3]
  by_cases k4 : b0 / 8 = 30 ∧ (1 < n ∧ b1 / 64 = 2) ∧ (2 < n ∧ b2 / 64 = 2) ∧ (3 < n ∧ b3 / 64 = 2)
  · have e1 := h1 k4.2.1.1
    have e2 := h2 k4.2.2.1.1
    have e3 := h3 k4.2.2.2.1
    subst e1 e2 e3
    rw [if_pos k4, if_neg (show ¬ (b0 / 32 = 6 ∧ (1 < n' ∧ c1 / 64 = 2)) by omega), if_neg (show ¬ (b0 / 16 = 14 ∧ (1 < n' ∧ c1 / 64 = 2) ∧ (2 < n' ∧ c2 / 64 = 2)) by omega), if_pos (show b0 / 8 = 30 ∧ (1 < n' ∧ c1 / 64 = 2) ∧ (2 < n' ∧ c2 / 64 = 2) ∧ (3 < n' ∧ c3 / 64 = 2) by omega)]
  rw [if_neg k4] at hr
  exact absurd rfl hr
theorem decodeL_append (a b : List UInt8) (hne : a ≠ []) (hr : (decodeL a).1 ≠ 65533) : decodeL (a ++ b) = decodeL a := by
  rw [Go.Lib.decodeL_N] at hr
  rw [Go.Lib.decodeL_N, Go.Lib.decodeL_N a]
  have h0 := List.length_pos_iff.2 hne
  have hg : ∀ i, i < a.length → (a ++ b).getD i 0 = a.getD i 0 := by
    intro i hi
    simp [List.getD, List.getElem?_append_left hi]
  rw [hg 0 h0]
  exact decodeN_mono (by rw [List.length_append]; omega) (fun h => by rw [hg 1 h]) (fun h => by rw [hg 2 h]) (fun h => by rw [hg 3 h]) hr
theorem rnL_append (b : List UInt8) : ∀ {a : List UInt8}, GoodL a → rnL (a ++ b) = rnL a ++ rnL b ∧ (GoodL b → GoodL (a ++ b)) := by
  intro a h
  induction h with
  | nil => exact ⟨by rw [rnL_nil]; rfl, fun h => h⟩
  | cons l hne hr hg ih =>
    have hd := decodeL_append l b hne hr
    have hw := Go.Lib.decodeL_le l hne
    have hne' : l ++ b ≠ [] := by simp [hne]
    have hdr : (l ++ b).drop (decodeL l).2 = l.drop (decodeL l).2 ++ b := List.drop_append_of_le_length hw
    refine ⟨?_, fun hb => .cons _ hne' (by rw [hd]; exact hr) ?_⟩
    · rw [rnL_cons hne', rnL_cons hne, hd, hdr, ih.1]
      rfl
    · rw [hd, hdr]
      exact ih.2 hb

/-! ### Where a sentence ends, in characters -/
def u2 (dl fl : List Int) : List Int → Nat
  | [] => 0
  | r :: t => if memB r dl || memB r fl then 1 + u2 dl fl t else 0
def u1 (dl fl : List Int) (most : Int) : List Int → Nat → Nat × Bool
  | [], _ => (0, false)
  | r :: t, rc => if !memB r dl && decide (((rc + 1 : Nat) : Int) < most) then (1 + (u1 dl fl most t (rc + 1)).1, (u1 dl fl most t (rc + 1)).2) else (1 + u2 dl fl t, true)
theorem cutL_add {l : List UInt8} (h : l ≠ []) (m : Nat) : cutL (1 + m) l = (decodeL l).2 + cutL m (l.drop (decodeL l).2) := by rw [Nat.add_comm 1 m, cutL_cons h]
theorem drop_ne {x : List UInt8} {q : Nat} (h : q < x.length) : x.drop q ≠ [] := by intro e; have := congrArg List.length e; simp at this; omega
theorem g2_runes (dl fl : List Int) (x : List UInt8) (off : Nat) : ∀ (k p : Nat), x.length - (off + p) ≤ k → g2 dl fl (fun p => decT x (off + p)) (x.length - off) p = p + cutL (u2 dl fl (rnL (x.drop (off + p)))) (x.drop (off + p)) := by
  intro k
  induction k with
  | zero =>
    intro p hk
    rw [g2, dif_neg (by omega), List.drop_of_length_le (by omega), cutL_nil]
    rfl
  | succ k ih =>
    intro p hk
    by_cases hlt : off + p < x.length
    · have hd := decT_le x hlt
      have hne := drop_ne hlt
      have hrn : rnL (x.drop (off + p)) = (decT x (off + p)).1 :: rnL (x.drop (off + (p + (decT x (off + p)).2))) := by
        rw [rnL_cons hne, List.drop_drop, ← Nat.add_assoc]; rfl
      rw [g2, dif_pos ⟨by omega, hd.1⟩, hrn, u2]
      split
      · rw [ih _ (by omega), cutL_add hne, List.drop_drop, ← Nat.add_assoc off]
        show p + (decT x (off + p)).2 + _ = p + ((decT x (off + p)).2 + cutL _ (x.drop (off + p + (decT x (off + p)).2)))
        omega
      · rw [cutL]; rfl
    · rw [g2, dif_neg (by omega), List.drop_of_length_le (by omega), cutL_nil]
      rfl
theorem g1_runes (dl fl : List Int) (most : Int) (x : List UInt8) (off : Nat) : ∀ (k p rc : Nat), x.length - (off + p) ≤ k → g1 dl fl most (fun p => decT x (off + p)) (x.length - off) p rc = (p + cutL (u1 dl fl most (rnL (x.drop (off + p))) rc).1 (x.drop (off + p)), (u1 dl fl most (rnL (x.drop (off + p))) rc).2) := by
  intro k
  induction k with
  | zero =>
    intro p rc hk
    rw [g1, dif_neg (by omega), List.drop_of_length_le (by omega), cutL_nil, rnL_nil]
    rfl
  | succ k ih =>
    intro p rc hk
    by_cases hlt : off + p < x.length
    · have hd := decT_le x hlt
      have hne := drop_ne hlt
      have hrn : rnL (x.drop (off + p)) = (decT x (off + p)).1 :: rnL (x.drop (off + (p + (decT x (off + p)).2))) := by
        rw [rnL_cons hne, List.drop_drop, ← Nat.add_assoc]; rfl
      rw [g1, dif_pos ⟨by omega, hd.1⟩, hrn, u1]
      split
      · rw [ih _ _ (by omega), cutL_add hne, List.drop_drop, ← Nat.add_assoc off]
        refine Prod.ext ?_ rfl
        show p + (decT x (off + p)).2 + _ = p + ((decT x (off + p)).2 + cutL _ (x.drop (off + p + (decT x (off + p)).2)))
        omega
      · rw [g2_runes dl fl x off k _ (by omega), cutL_add hne, List.drop_drop, ← Nat.add_assoc off]
        refine Prod.ext ?_ rfl
        show p + (decT x (off + p)).2 + _ = p + ((decT x (off + p)).2 + cutL _ (x.drop (off + p + (decT x (off + p)).2)))
        omega
    · rw [g1, dif_neg (by omega), List.drop_of_length_le (by omega), cutL_nil, rnL_nil]
      rfl
theorem u1_pos {dl fl : List Int} {most : Int} {R : List Int} (h : R ≠ []) (rc : Nat) : 0 < (u1 dl fl most R rc).1 := by
  cases R with
  | nil => exact absurd rfl h
  | cons r t =>
    rw [u1]
    split <;> (dsimp only; omega)
/-- The sentences of a row of characters. -/
def sentsR (dl fl : List Int) (most : Int) (R : List Int) : List (List Int) :=
  if h : R = [] then [] else R.take (u1 dl fl most R 0).1 :: sentsR dl fl most (R.drop (u1 dl fl most R 0).1)
termination_by R.length
decreasing_by
  rw [List.length_drop]
  have h1 := List.length_pos_iff.2 h
  have h2 := u1_pos (dl := dl) (fl := fl) (most := most) h 0
  omega
theorem sentsR_nil (dl fl : List Int) (most : Int) : sentsR dl fl most [] = [] := by rw [sentsR, dif_pos rfl]
theorem sentsR_cons {dl fl : List Int} {most : Int} {R : List Int} (h : R ≠ []) : sentsR dl fl most R = R.take (u1 dl fl most R 0).1 :: sentsR dl fl most (R.drop (u1 dl fl most R 0).1) := by rw [sentsR, dif_neg h]
theorem sents_runes (dl fl : List Int) (most : Int) (s : ByteArray) : ∀ (k off : Nat), s.size - off ≤ k → off ≤ s.size → GoodL (s.data.toList.drop off) → sents dl fl most (decT s.data.toList) s off = (sentsR dl fl most (rnL (s.data.toList.drop off))).map fun rs => ⟨(bytesL rs).toArray⟩ := by
  have hz : s.data.toList.length = s.size := data_length s
  intro k
  induction k with
  | zero =>
    intro off hk ho hg
    rw [sents, dif_neg (by omega), List.drop_of_length_le (by omega), rnL_nil, sentsR_nil]
    rfl
  | succ k ih =>
    intro off hk ho hg
    by_cases hlt : off < s.size
    · have hne := drop_ne (x := s.data.toList) (q := off) (by omega)
      have hrn : rnL (s.data.toList.drop off) ≠ [] := by rw [rnL_cons hne]; simp
      have h1 := g1_runes dl fl most s.data.toList off s.size 0 0 (by omega)
      simp only [hz, Nat.zero_add, Nat.add_zero] at h1
      have h2 := cutL_pos (m := (u1 dl fl most (rnL (s.data.toList.drop off)) 0).1) hne (u1_pos hrn 0)
      have h3 := cutL_le (u1 dl fl most (rnL (s.data.toList.drop off)) 0).1 (s.data.toList.drop off)
      rw [List.length_drop, hz] at h3
      obtain ⟨c1, c2, c3⟩ := cutL_spec (u1 dl fl most (rnL (s.data.toList.drop off)) 0).1 _ hg
      rw [sents, h1, dif_pos ⟨hlt, h2⟩, sentsR_cons hrn, List.map_cons, ih _ (by omega) (by omega) (by rw [← List.drop_drop]; exact c3), ← List.drop_drop, c2]
      congr 1
      apply ba_ext
      apply Array.ext'
      simp only [ByteArray.data_extract, Array.toList_extract, List.extract_eq_take_drop, Nat.add_sub_cancel_left]
      rw [c1]
    · rw [sents, dif_neg (by omega), List.drop_of_length_le (by omega), rnL_nil, sentsR_nil]
      rfl

/-! ### Two texts -/
theorem u2_le (dl fl : List Int) : ∀ R : List Int, u2 dl fl R ≤ R.length
  | [] => Nat.le_refl _
  | r :: t => by
    have := u2_le dl fl t
    rw [u2, List.length_cons]
    split <;> omega
theorem u1_le (dl fl : List Int) (most : Int) : ∀ (R : List Int) (rc : Nat), (u1 dl fl most R rc).1 ≤ R.length
  | [], _ => Nat.le_refl _
  | r :: t, rc => by
    have h1 := u1_le dl fl most t (rc + 1)
    have h2 := u2_le dl fl t
    rw [u1, List.length_cons]
    split <;> (dsimp only; omega)
theorem u2_append (dl fl : List Int) (R : List Int) (b : Int) (B : List Int) (h1 : b ∉ dl) (h2 : b ∉ fl) : ∀ A : List Int, u2 dl fl (A ++ b :: B) = u2 dl fl A
  | [] => by rw [List.nil_append, u2, u2, memB_false h1, memB_false h2]; rfl
  | r :: t => by rw [List.cons_append, u2, u2, u2_append dl fl R b B h1 h2 t]
theorem u1_end {dl fl : List Int} {most : Int} {d : Int} (hd : d ∈ dl) (t : List Int) (rc : Nat) : u1 dl fl most (d :: t) rc = (1 + u2 dl fl t, true) := by
  rw [u1, memB_true hd, if_neg (by simp)]
theorem u1_append (dl fl : List Int) (most : Int) (b : Int) (B : List Int) (h1 : b ∉ dl) (h2 : b ∉ fl) (d : Int) (hd : d ∈ dl) : ∀ (A : List Int) (rc : Nat), ((rc + A.length + 1 : Nat) : Int) < most → u1 dl fl most (A ++ d :: b :: B) rc = u1 dl fl most (A ++ [d]) rc
  | [], rc, hm => by
    have e := u2_append dl fl [] b B h1 h2 []
    rw [List.nil_append] at e
    rw [List.nil_append, List.nil_append, u1_end hd, u1_end hd, e]
  | r :: t, rc, hm => by
    rw [List.length_cons] at hm
    have ih := u1_append dl fl most b B h1 h2 d hd t (rc + 1) (by omega)
    have e := u2_append dl fl [] b B h1 h2 (t ++ [d])
    rw [List.append_assoc] at e
    rw [List.cons_append, List.cons_append, u1, u1, ih]
    split
    · rfl
    · exact congrArg (fun n => (1 + n, true)) e
theorem sentsR_two (dl fl : List Int) (most : Int) (b : Int) (B : List Int) (h1 : b ∉ dl) (h2 : b ∉ fl) (d : Int) (hd : d ∈ dl) : ∀ (k : Nat) (A : List Int), A.length ≤ k → ((A.length + 1 : Nat) : Int) < most → sentsR dl fl most (A ++ d :: b :: B) = sentsR dl fl most (A ++ [d]) ++ sentsR dl fl most (b :: B) := by
  intro k
  induction k with
  | zero =>
    intro A hA hm
    obtain rfl := List.length_eq_zero_iff.1 (Nat.le_zero.1 hA)
    have e := u2_append dl fl [] b B h1 h2 []
    rw [List.nil_append] at e
    have hu := u1_append dl fl most b B h1 h2 d hd [] 0 hm
    have hv : (u1 dl fl most [d] 0).1 = 1 := by rw [u1, memB_true hd]; rfl
    rw [List.nil_append, List.nil_append] at hu ⊢
    rw [sentsR_cons (by simp), hu, sentsR_cons (R := [d]) (by simp), hv]
    simp [sentsR_nil]
  | succ k ih =>
    intro A hA hm
    have hu := u1_append dl fl most b B h1 h2 d hd A 0 (by omega)
    have hp := u1_pos (dl := dl) (fl := fl) (most := most) (R := A ++ [d]) (by simp) 0
    have hl := u1_le dl fl most (A ++ [d]) 0
    rw [List.length_append, List.length_singleton] at hl
    rw [sentsR_cons (R := A ++ d :: b :: B) (by simp), hu, sentsR_cons (R := A ++ [d]) (by simp)]
    generalize (u1 dl fl most (A ++ [d]) 0).1 = n at hp hl
    have hsp : A ++ d :: b :: B = (A ++ [d]) ++ b :: B := by simp
    rw [hsp, List.take_append_of_le_length (by simp; omega), List.drop_append_of_le_length (by simp; omega), List.cons_append]
    congr 1
    by_cases hn : n = A.length + 1
    · rw [List.drop_of_length_le (l := A ++ [d]) (by simp; omega), sentsR_nil]
      rfl
    · rw [List.drop_append_of_le_length (by omega), List.append_assoc, List.singleton_append]
      exact ih (A.drop n) (by rw [List.length_drop]; omega) (by rw [List.length_drop]; omega)
end Go.Proofs.YtaniafohcaiedaaDoor.Sn
