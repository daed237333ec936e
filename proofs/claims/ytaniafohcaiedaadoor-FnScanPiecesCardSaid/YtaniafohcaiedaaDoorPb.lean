/-
  A text's data in pieces: plain.
-/
import Derived.Test.YtaniafohcaiedaaDoorTy
set_option linter.unusedVariables false
set_option linter.unusedSimpArgs false
namespace Go.Proofs.YtaniafohcaiedaaDoor.Sn
open Go.RowKit Go.Proofs.YtaniafohcaiedaaDoor.K Go.Proofs.YtaniafohcaiedaaDoorW.PrintWords
open Go.Lib (decodeL encodeRune decodeN)

theorem decodeN_shrink {n n' b0 b1 b2 b3 c1 c2 c3 : Nat} (hn : n ≤ n') (h1 : 1 < n → c1 = b1) (h2 : 2 < n → c2 = b2) (h3 : 3 < n → c3 = b3) (hr : (decodeN n' b0 c1 c2 c3).1 ≠ 65533) (hd : (decodeN n' b0 c1 c2 c3).2 ≤ n) : decodeN n b0 b1 b2 b3 = decodeN n' b0 c1 c2 c3 := by
  have key : (decodeN n b0 b1 b2 b3).1 ≠ 65533 := by
    unfold decodeN at hr hd ⊢
    by_cases k : b0 < 128
    · rw [if_pos k] at hr ⊢; exact hr
    rw [if_neg k] at hr hd ⊢
    by_cases k2 : b0 / 32 = 6 ∧ (1 < n' ∧ c1 / 64 = 2)
    · rw [if_pos k2] at hr hd
      by_cases h : b0 % 32 * 64 + c1 % 64 ≥ 128
      · rw [if_pos h] at hd
        have hd' : 2 ≤ n := hd
        have e1 := h1 (by omega)
        subst e1
        rw [if_pos (show b0 / 32 = 6 ∧ (1 < n ∧ c1 / 64 = 2) from ⟨k2.1, by omega, k2.2.2⟩)]
        exact hr
      · rw [if_neg h] at hr
        exact absurd rfl hr
    rw [if_neg k2] at hr hd
    by_cases k3 : b0 / 16 = 14 ∧ (1 < n' ∧ c1 / 64 = 2) ∧ (2 < n' ∧ c2 / 64 = 2)
    · rw [if_pos k3] at hr hd
      have hd' : 3 ≤ n := by
        split at hd
        · exact hd
        · next h => rw [if_neg h] at hr; exact absurd rfl hr
      have e1 := h1 (by omega)
      have e2 := h2 (by omega)
      subst e1 e2
      rw [if_neg (show ¬ (b0 / 32 = 6 ∧ (1 < n ∧ c1 / 64 = 2)) by omega), if_pos (show b0 / 16 = 14 ∧ (1 < n ∧ c1 / 64 = 2) ∧ (2 < n ∧ c2 / 64 = 2) by omega)]
      exact hr
    rw [if_neg k3] at hr hd
    by_cases k4 : b0 / 8 = 30 ∧ (1 < n' ∧ c1 / 64 = 2) ∧ (2 < n' ∧ c2 / 64 = 2) ∧ (3 < n' ∧ c3 / 64 = 2)
    · rw [if_pos k4] at hr hd
      have hd' : 4 ≤ n := by
        split at hd
        · exact hd
        · next h => rw [if_neg h] at hr; exact absurd rfl hr
      have e1 := h1 (by omega)
      have e2 := h2 (by omega)
      have e3 := h3 (by omega)
      subst e1 e2 e3
      rw [if_neg (show ¬ (b0 / 32 = 6 ∧ (1 < n ∧ c1 / 64 = 2)) by omega), if_neg (show ¬ (b0 / 16 = 14 ∧ (1 < n ∧ c1 / 64 = 2) ∧ (2 < n ∧ c2 / 64 = 2)) by omega), if_pos (show b0 / 8 = 30 ∧ (1 < n ∧ c1 / 64 = 2) ∧ (2 < n ∧ c2 / 64 = 2) ∧ (3 < n ∧ c3 / 64 = 2) by omega)]
      exact hr
    rw [if_neg k4] at hr
    exact absurd rfl hr
  exact (decodeN_mono hn h1 h2 h3 key).symm
theorem decodeL_take {l : List UInt8} {k : Nat} (hne : l ≠ []) (hr : (decodeL l).1 ≠ 65533) (hk : (decodeL l).2 ≤ k) : decodeL (l.take k) = decodeL l := by
  have hw := Go.Lib.decodeL_width l
  have hp := List.length_pos_iff.2 hne
  rw [Go.Lib.decodeL_N l] at hr hk ⊢
  rw [Go.Lib.decodeL_N]
  have hlen : (l.take k).length = min k l.length := List.length_take
  have hg : ∀ i, i < (l.take k).length → l.getD i 0 = (l.take k).getD i 0 := by
    intro i hi
    simp only [List.getD]
    rw [List.getElem?_take, if_pos (by omega)]
  rw [← Go.Lib.decodeL_N l] at hk
  rw [← hg 0 (by omega)]
  have hle := Go.Lib.decodeL_le l hne
  exact decodeN_shrink (by omega) (fun h => by rw [hg 1 h]) (fun h => by rw [hg 2 h]) (fun h => by rw [hg 3 h]) hr (by rw [← Go.Lib.decodeL_N l]; omega)
/-- The first m characters of a text, and their bytes. -/
theorem take_runes : ∀ (m : Nat) (l : List UInt8), GoodL l → rnL (l.take (cutL m l)) = (rnL l).take m ∧ GoodL (l.take (cutL m l))
  | 0, l, h => by simp [cutL, rnL_nil, GoodL.nil]
  | m + 1, l, h => by
    by_cases h0 : l = []
    · subst h0
      simp [cutL, rnL_nil, GoodL.nil]
    · cases h with
      | nil => exact absurd rfl h0
      | cons _ _ hr hg =>
        obtain ⟨h1, h2⟩ := take_runes m _ hg
        have hw := Go.Lib.decodeL_width l
        have hd := decodeL_take h0 hr (Nat.le_add_right (decodeL l).2 (cutL m (l.drop (decodeL l).2)))
        have hp := List.length_pos_iff.2 h0
        rw [cutL, if_neg h0]
        generalize hc : cutL m (l.drop (decodeL l).2) = c at h1 h2 hd
        have hne : l.take ((decodeL l).2 + c) ≠ [] := by
          intro e
          have := congrArg List.length e
          rw [List.length_take, List.length_nil] at this
          omega
        have hdr : (l.take ((decodeL l).2 + c)).drop (decodeL l).2 = (l.drop (decodeL l).2).take c := by
          rw [List.drop_take]
          congr 1
          omega
        refine ⟨?_, .cons _ hne (by rw [hd]; exact hr) (by rw [hd, hdr]; exact h2)⟩
        rw [rnL_cons hne, rnL_cons h0, hd, hdr, h1, List.take_succ_cons]
/-- A run of a text's characters: its bytes are read as these. -/
theorem mid_runes {l : List UInt8} (h : GoodL l) (j m : Nat) : rnL (bytesL (((rnL l).drop j).take m)) = ((rnL l).drop j).take m ∧ GoodL (bytesL (((rnL l).drop j).take m)) := by
  obtain ⟨h1, h2, h3⟩ := cutL_spec j l h
  obtain ⟨h4, h5, h6⟩ := cutL_spec m _ h3
  obtain ⟨h7, h8⟩ := take_runes m _ h3
  rw [h2] at h4 h7
  rw [h4]
  exact ⟨h7, h8⟩
theorem bytesL_append (a b : List Int) : bytesL (a ++ b) = bytesL a ++ bytesL b := by simp [bytesL]
theorem bytesL_take_len {l : List UInt8} (h : GoodL l) (k : Nat) : (bytesL ((rnL l).take k)).length ≤ l.length := by
  rw [(cutL_spec k l h).1, List.length_take]
  exact Nat.min_le_right _ _
theorem bytesL_ne {l : List UInt8} (h : GoodL l) {rs : List Int} (hr : ∃ j m, rs = ((rnL l).drop j).take m) (hne : rs ≠ []) : 0 < (bytesL rs).length := by
  obtain ⟨j, m, rfl⟩ := hr
  obtain ⟨h1, _⟩ := mid_runes h j m
  rw [Nat.pos_iff_ne_zero]
  intro e
  rw [List.length_eq_zero_iff.1 e, rnL_nil] at h1
  exact hne h1.symm
theorem u2_pre (dl fl : List Int) (B : List Int) : ∀ A : List Int, u2 dl fl A < A.length → u2 dl fl (A ++ B) = u2 dl fl A
  | [], h => by simp [u2] at h
  | r :: t, h => by
    rw [List.cons_append, u2, u2]
    rw [u2, List.length_cons] at h
    split
    · next hc => rw [if_pos hc] at h; rw [u2_pre dl fl B t (by omega)]
    · rfl
theorem u1_pre (dl fl : List Int) (most : Int) (B : List Int) : ∀ (A : List Int) (rc : Nat), (u1 dl fl most A rc).1 < A.length → u1 dl fl most (A ++ B) rc = u1 dl fl most A rc
  | [], rc, h => by simp [u1] at h
  | r :: t, rc, h => by
    rw [List.cons_append, u1, u1]
    rw [u1, List.length_cons] at h
    split
    · next hc =>
      rw [if_pos hc] at h
      rw [u1_pre dl fl most B t (rc + 1) (by simp only at h; omega)]
    · next hc =>
      rw [if_neg hc] at h
      rw [u2_pre dl fl B t (by simp only at h; omega)]
/-- How many bytes the first k characters have. -/
def bl (l : List UInt8) (k : Nat) : Nat := (bytesL ((rnL l).take k)).length
theorem bl_add {l : List UInt8} (j m : Nat) : bl l j + (bytesL (((rnL l).drop j).take m)).length = bl l (j + m) := by
  unfold bl
  rw [List.take_add, bytesL_append, List.length_append]
theorem bl_le {l : List UInt8} (h : GoodL l) (k : Nat) : bl l k ≤ l.length := bytesL_take_len h k
theorem bl_lt {l : List UInt8} (h : GoodL l) {j k : Nat} (hj : j < k) (hk : k ≤ (rnL l).length) : bl l j < bl l k := by
  have h1 := bl_add (l := l) j (k - j)
  have h2 := bytesL_ne h ⟨j, k - j, rfl⟩ (by intro e; have := congrArg List.length e; rw [List.length_take, List.length_drop, List.length_nil] at this; omega)
  rw [show j + (k - j) = k by omega] at h1
  omega
theorem len_mk (x : List UInt8) : (⟨x.toArray⟩ : ByteArray).size = x.length := by simp [ByteArray.size]
theorem extract_list (T : ByteArray) (a b : Nat) : (T.extract a b).data.toList = (T.data.toList.drop a).take (b - a) := by
  simp [ByteArray.data_extract, List.drop_take]
theorem piece (dl fl : List Int) (most : Int) {l : List UInt8} (hg : GoodL l) {j k : Nat} (hj : j < k) (hk : k ≤ (rnL l).length) (T : ByteArray) (hT : T.data.toList = bytesL (((rnL l).drop j).take (k - j))) :
    ∃ (m p : Nat) (f : Bool), 0 < m ∧ m ≤ k - j ∧ g1 dl fl most (decT T.data.toList) T.size 0 0 = (p, f) ∧ 0 < p ∧ p ≤ T.size ∧ (p = T.size ↔ m = k - j) ∧ T.extract 0 p = ⟨(bytesL (((rnL l).drop j).take m)).toArray⟩ ∧ bl l j + p = bl l (j + m) ∧
      ((m < k - j ∨ k = (rnL l).length) → sentsR dl fl most ((rnL l).drop j) = ((rnL l).drop j).take m :: sentsR dl fl most ((rnL l).drop (j + m))) := by
  obtain ⟨hr, hgT⟩ := mid_runes hg j (k - j)
  rw [← hT] at hr hgT
  have hz : T.data.toList.length = T.size := data_length T
  have h1 := g1_runes dl fl most T.data.toList 0 T.size 0 0 (by omega)
  simp only [Nat.zero_add, Nat.sub_zero, List.drop_zero] at h1
  rw [hz, hr] at h1
  have hMl : (((rnL l).drop j).take (k - j)).length = k - j := by rw [List.length_take, List.length_drop]; omega
  have hne : ((rnL l).drop j).take (k - j) ≠ [] := by intro e; rw [e] at hMl; simp at hMl; omega
  have hp := u1_pos (dl := dl) (fl := fl) (most := most) hne 0
  have hl := u1_le dl fl most (((rnL l).drop j).take (k - j)) 0
  have hpre := u1_pre dl fl most (((rnL l).drop j).drop (k - j)) (((rnL l).drop j).take (k - j)) 0
  rw [List.take_append_drop] at hpre
  have hsp := (cutL_spec (u1 dl fl most (((rnL l).drop j).take (k - j)) 0).1 _ hgT).1
  have hle := cutL_le (u1 dl fl most (((rnL l).drop j).take (k - j)) 0).1 T.data.toList
  rw [hr] at hsp
  rw [hMl] at hl hpre
  have heq : (k = (rnL l).length) → ((rnL l).drop j).take (k - j) = (rnL l).drop j := fun e => List.take_of_length_le (by rw [List.length_drop]; omega)
  have hcons := fun h0 => sentsR_cons (dl := dl) (fl := fl) (most := most) (R := (rnL l).drop j) h0
  have hdne : (rnL l).drop j ≠ [] := by intro e; have := congrArg List.length e; rw [List.length_drop, List.length_nil] at this; omega
  have hcons := hcons hdne
  obtain ⟨U, hU⟩ : ∃ U, u1 dl fl most (((rnL l).drop j).take (k - j)) 0 = U := ⟨_, rfl⟩
  rw [hU] at h1 hp hl hpre hsp hle
  obtain ⟨m, f⟩ := U
  simp only at h1 hp hl hpre hsp hle
  have htk : (((rnL l).drop j).take (k - j)).take m = ((rnL l).drop j).take m := by rw [List.take_take, Nat.min_eq_left hl]
  rw [htk] at hsp
  have hpl : (bytesL (((rnL l).drop j).take m)).length = cutL m T.data.toList := by rw [hsp, List.length_take]; omega
  have hpos := bytesL_ne hg ⟨j, m, rfl⟩ (show ((rnL l).drop j).take m ≠ [] by intro e; have := congrArg List.length e; rw [List.length_take, List.length_drop, List.length_nil] at this; omega)
  refine ⟨m, cutL m T.data.toList, f, hp, hl, h1, by omega, by omega, ⟨fun e => ?_, fun e => ?_⟩, ?_, ?_, fun h => ?_⟩
  · rcases Nat.lt_or_ge m (k - j) with h | h
    · have e1 := bl_add (l := l) j m
      have e2 := bl_add (l := l) j (k - j)
      rw [← hT, hz] at e2
      have e3 := bl_lt hg (show j + m < j + (k - j) by omega) (by omega)
      omega
    · omega
  · rw [← hpl, e, ← hT, hz]
  · apply ByteArray.ext
    apply Array.ext'
    rw [extract_list, hsp]
    simp
  · rw [← hpl]; exact bl_add j m
  · rcases h with h | h
    · rw [hcons, hpre h, List.drop_drop]
    · rw [heq h] at hU
      rw [hcons, hU, List.drop_drop]
end Go.Proofs.YtaniafohcaiedaaDoor.Sn
