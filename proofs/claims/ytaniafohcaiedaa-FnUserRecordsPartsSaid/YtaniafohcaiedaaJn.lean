/-
  The walks of laws.within and laws.joined.
-/
import Derived.Test.YtaniafohcaiedaaIx
import Derived.Lib.Join
set_option linter.unusedVariables false
set_option linter.unusedSimpArgs false
namespace Go.Proofs.Ytaniafohcaiedaa.Tx
open Go.RowKit Go.Proofs.Ytaniafohcaiedaa.K Go.Proofs.YtaniafohcaiedaaW.PrintWords

/-- Texts in line, a byte between them. -/
def jn (c : UInt8) : List (List UInt8) → List UInt8
  | [] => []
  | [x] => x
  | x :: y :: r => x ++ c :: jn c (y :: r)
theorem jn_join (c : UInt8) (xs : List (List UInt8)) : Lib.join xs [c] = jn c xs := by
  induction xs with
  | nil => rfl
  | cons x r ih =>
    cases r with
    | nil => rw [Lib.join_one]; rfl
    | cons y r =>
      rw [Lib.join_cons] at ih ⊢
      rw [jn, ← ih]
      simp [Lib.joinTail]
theorem jn_snoc (c : UInt8) (xs : List (List UInt8)) (x : List UInt8) (h : xs ≠ []) : jn c (xs ++ [x]) = jn c xs ++ [c] ++ x := by
  induction xs with
  | nil => exact absurd rfl h
  | cons y r ih =>
    cases r with
    | nil => simp [jn]
    | cons z r =>
      have := ih (by simp)
      rw [List.cons_append, List.cons_append, jn, ← List.cons_append, this, jn]
      simp
theorem jn_length (c : UInt8) (xs : List (List UInt8)) : (jn c xs).length ≤ (xs.map fun x => x.length + 1).sum := by
  induction xs with
  | nil => simp [jn]
  | cons x r ih =>
    cases r with
    | nil => simp [jn]
    | cons y r =>
      rw [jn, List.map_cons, List.sum_cons, List.length_append, List.length_cons]
      omega
theorem ofL_append (a b : List UInt8) : ofL a ++ ofL b = ofL (a ++ b) := by
  apply ba_ext
  simp [ofL, ByteArray.data_append]
def bulkT (xs : List ByteArray) : Nat := (xs.map fun x => x.size + 1).sum
theorem bulkT_take (xs : List ByteArray) (k : Nat) : bulkT (xs.take k) ≤ bulkT xs := by
  have h : bulkT xs = bulkT (xs.take k) + bulkT (xs.drop k) := by
    unfold bulkT
    rw [← List.sum_append, ← List.map_append, List.take_append_drop]
  omega
theorem jn_bulk (c : UInt8) (xs : List ByteArray) : (jn c (xs.map toL)).length ≤ bulkT xs := by
  have := jn_length c (xs.map toL)
  rw [List.map_map] at this
  refine Nat.le_trans this (Nat.le_of_eq ?_)
  unfold bulkT
  congr 1
theorem mem_bulk {xs : List ByteArray} {x : ByteArray} (h : x ∈ xs) : x.size + 1 ≤ bulkT xs := by
  induction xs with
  | nil => cases h
  | cons y r ih =>
    unfold bulkT
    rw [List.map_cons, List.sum_cons]
    rcases List.mem_cons.1 h with rfl | h
    · omega
    · have := ih h
      unfold bulkT at this
      omega

/-- What is joined of the first k. -/
def pj (c : UInt8) (xs : List ByteArray) (k : Nat) : ByteArray := ofL (jn c ((xs.take k).map toL))
theorem pj_size (c : UInt8) (xs : List ByteArray) (k : Nat) : (pj c xs k).size ≤ bulkT xs := by
  rw [pj, ofL_size]
  exact Nat.le_trans (jn_bulk c _) (bulkT_take xs k)
theorem pj_size1 (c : UInt8) (xs : List ByteArray) (k : Nat) (h : k < xs.length) : (pj c xs k).size + xs[k].size + 1 ≤ bulkT xs := by
  have h1 : (pj c xs k).size ≤ bulkT (xs.take k) := by rw [pj, ofL_size]; exact jn_bulk c _
  have h2 := bulkT_take xs (k + 1)
  have h3 : bulkT (xs.take (k + 1)) = bulkT (xs.take k) + (xs[k].size + 1) := by
    rw [List.take_succ_eq_append_getElem h]
    unfold bulkT
    rw [List.map_append, List.sum_append]
    rfl
  omega
theorem pj_first (c : UInt8) (xs : List ByteArray) (k : Nat) (hlt : k < xs.length) (hk0 : k = 0) : pj c xs k ++ xs[k] = pj c xs (k + 1) := by
  subst hk0
  unfold pj
  rw [List.take_succ_eq_append_getElem hlt]
  show ofL [] ++ xs[0] = ofL (toL xs[0])
  rw [ofL_toL]
  apply ba_ext
  simp [ofL]
theorem pj_next (c : UInt8) (xs : List ByteArray) (k : Nat) (hlt : k < xs.length) (hk0 : k ≠ 0) : pj c xs k ++ one c ++ xs[k] = pj c xs (k + 1) := by
  have hne : (xs.take k).map toL ≠ [] := by
    intro e
    have := congrArg List.length e
    rw [List.length_map, List.length_take, Nat.min_eq_left (by omega)] at this
    exact hk0 this
  unfold pj
  rw [List.take_succ_eq_append_getElem hlt, List.map_append, List.map_cons, List.map_nil, jn_snoc c _ _ hne, show one c = ofL [c] from rfl, ofL_append]
  conv => lhs; rw [← ofL_toL xs[k], ofL_append]
set_option maxHeartbeats 1000000 in
set_option maxRecDepth 5000 in
theorem joined_any (A : Option Addr) (cap : Nat) (xs : List ByteArray) (c : UInt8) (w : World) (hC : Kd.string.C w A xs.length xs) (hb : bulkT xs ≤ 4611686018427387904) :
    Calls Try.prog 25 #[.slice A xs.length cap, .string (one c)] w fun e w' => e = .returned (.string (pj c xs xs.length)) ∧ w' = w := by
  have HC := Lib.hid hC
  have hm := hC.2.1
  have h1 : (one c).size = 1 := rfl
  have HN := Lib.hid (pj_next c xs)
  clear hC
  generalize ho : one c = oc at h1 HN ⊢
  go_enter Try.func25, Try.ntmps25
  go_wp2
  go_loopw [9, 5] (fun i s wr => ∃ k : Nat, k ≤ xs.length ∧ i = .int .i64 k ∧ s = .string (pj c xs k) ∧ wr = w) (fun i _ _ => xs.length - (intOf i).toNat)
  case atStart => exact ⟨0, Nat.zero_le _, rfl, rfl, rfl⟩
  case round =>
    obtain ⟨k, hk, rfl, rfl, rfl⟩ := hrel
    by_cases hlt : k < xs.length
    · obtain ⟨ad, rfl, hs⟩ := strs_at HC.out k hlt
      have hz := pj_size1 c xs k hlt
      have hap : (pj c xs k ++ oc).size = (pj c xs k).size + oc.size := ByteArray.size_append
      by_cases hk0 : k = 0
      · have HE := Lib.hid (pj_first c xs k hlt hk0)
        have hng : ¬ (0 : Int) < (k : Int) := by omega
        clear hk0
        go_wp2
        rw [HE.out]
        exact ⟨⟨k + 1, by omega, by go_num, rfl, trivial⟩, by simp [intOf]; omega⟩
      · have HE := Lib.hid (HN.out k hlt hk0)
        have hng : (0 : Int) < (k : Int) := by omega
        clear hk0
        go_wp2
        rw [HE.out]
        exact ⟨⟨k + 1, by omega, by go_num, rfl, trivial⟩, by simp [intOf]; omega⟩
    · obtain rfl : k = xs.length := by omega
      go_wp2
      go_ret
      exact ⟨rfl, rfl⟩

def BoolA (w : World) (e : Ending) (w' : World) : Prop := ∃ b, e = .returned (.bool b) ∧ w' = w
set_option maxHeartbeats 1000000 in
set_option maxRecDepth 5000 in
theorem within_any (s : ByteArray) (c : Int) (w : World) (hs : s.size ≤ 4611686018427387904) :
    Calls Try.prog 41 #[.string s, .int .u8 c] w (BoolA w) := by
  go_enter Try.func41, Try.ntmps41
  go_wp2
  go_loopw [8] (fun i wr => ∃ k : Nat, k ≤ s.size ∧ i = .int .i64 k ∧ wr = w) (fun i _ => s.size - (intOf i).toNat)
  case atStart => exact ⟨0, Nat.zero_le _, rfl, rfl⟩
  case round =>
    obtain ⟨k, hk, rfl, rfl⟩ := hrel
    by_cases hlt : k < s.size
    · by_cases hx : ((s[k].toNat : Int)) = c
      · have ht : (((s[k].toNat : Int)) == c) = true := by simpa using hx
        clear hx
        go_wp2
        go_ret
        exact ⟨true, by simp, rfl⟩
      · have ht : (((s[k].toNat : Int)) == c) = false := by simpa using hx
        clear hx
        go_wp2
        exact ⟨⟨k + 1, by omega, by go_num, trivial⟩, by simp [intOf]; omega⟩
    · go_wp2
      go_ret
      exact ⟨false, rfl, rfl⟩
end Go.Proofs.Ytaniafohcaiedaa.Tx
