/-
  Records of a user dictionary as lines: the records of lines that are written, and of a text behind them. No program in sight.
-/
import Derived.Test.YtaniafohcaiedaaUp
import Derived.Test.YtaniafohcaiedaaJn
set_option linter.unusedVariables false
set_option linter.unusedSimpArgs false
namespace Go.Proofs.Ytaniafohcaiedaa.Tx
open Go.RowKit Go.Proofs.Ytaniafohcaiedaa.K Go.Proofs.YtaniafohcaiedaaW.PrintWords

def plainW (s : ByteArray) : Prop := s.size ≠ 0 ∧ ∀ c ∈ toL s, 32 < c.toNat ∧ c.toNat ≠ 44 ∧ c.toNat ≠ 35
def okRec (u : Rec) : Prop := plainW u.1 ∧ plainW u.2.2.2 ∧ u.2.1.length = u.2.2.1.length ∧ 1 ≤ u.2.1.length ∧ u.2.1.length ≤ 20 ∧ (∀ x ∈ u.2.1, plainW x) ∧ ∀ x ∈ u.2.2.1, plainW x
def rowL (u : Rec) : List UInt8 := toL u.1 ++ 44 :: (jn 32 (u.2.1.map toL) ++ 44 :: (jn 32 (u.2.2.1.map toL) ++ 44 :: toL u.2.2.2))
def textL : List Rec → List UInt8
  | [] => []
  | u :: r => rowL u ++ 10 :: textL r
theorem textL_app (a b : List Rec) : textL (a ++ b) = textL a ++ textL b := by
  induction a with
  | nil => rfl
  | cons u r ih => rw [List.cons_append, textL, textL, ih]; simp
theorem mem_jn {c x : UInt8} : ∀ {xs : List (List UInt8)}, x ∈ jn c xs → x = c ∨ ∃ y ∈ xs, x ∈ y
  | [], h => by simp [jn] at h
  | [y], h => .inr ⟨y, by simp, h⟩
  | y :: z :: r, h => by
    rw [jn] at h
    rcases List.mem_append.1 h with h | h
    · exact .inr ⟨y, by simp, h⟩
    · rcases List.mem_cons.1 h with h | h
      · exact .inl h
      · rcases mem_jn h with h | ⟨a, ha, h⟩
        · exact .inl h
        · exact .inr ⟨a, List.mem_cons_of_mem _ ha, h⟩
theorem split_jn {c : UInt8} : ∀ {xs : List (List UInt8)}, xs ≠ [] → (∀ x ∈ xs, c ∉ x) → splitC c (jn c xs) = xs
  | [], h, _ => absurd rfl h
  | [y], _, h => splitC_no (h y (by simp))
  | y :: z :: r, _, h => by rw [jn, splitC_app (h y (by simp)), split_jn (by simp) (fun x hx => h x (List.mem_cons_of_mem _ hx))]
theorem plainW_no {s : ByteArray} (h : plainW s) (c : UInt8) (hc : c.toNat ≤ 32 ∨ c.toNat = 44 ∨ c.toNat = 35) : c ∉ toL s := by
  intro hm
  have := h.2 c hm
  omega
theorem jn_no {xs : List ByteArray} (h : ∀ x ∈ xs, plainW x) (c : UInt8) (hc : c.toNat < 32 ∨ c.toNat = 44 ∨ c.toNat = 35) : c ∉ jn 32 (xs.map toL) := by
  intro hm
  rcases mem_jn hm with rfl | ⟨y, hy, hm⟩
  · revert hc; decide
  · obtain ⟨x, hx, rfl⟩ := List.mem_map.1 hy
    exact plainW_no (h x hx) c (by omega) hm
theorem split_toks {xs : List ByteArray} (h : ∀ x ∈ xs, plainW x) (h0 : 1 ≤ xs.length) : (splitC 32 (jn 32 (xs.map toL))).map ofL = xs ∧ (splitC 32 (jn 32 (xs.map toL))).length = xs.length := by
  rw [split_jn (by intro e; have := congrArg List.length e; simp at this; subst this; simp at h0) (by
    intro x hx
    obtain ⟨y, hy, rfl⟩ := List.mem_map.1 hx
    exact plainW_no (h y hy) 32 (.inl (by decide)))]
  refine ⟨?_, by simp⟩
  rw [List.map_map]
  conv => rhs; rw [← List.map_id xs]
  exact List.map_congr_left fun x _ => ofL_toL x
theorem parse1_row {u : Rec} (h : okRec u) : parse1 (rowL u) = some u := by
  obtain ⟨h1, h2, h3, h4, h5, h6, h7⟩ := h
  have hs : splitC 44 (rowL u) = [toL u.1, jn 32 (u.2.1.map toL), jn 32 (u.2.2.1.map toL), toL u.2.2.2] := by
    rw [rowL, splitC_app (plainW_no h1 44 (by decide)), splitC_app (jn_no h6 44 (by decide)), splitC_app (jn_no h7 44 (by decide)), splitC_no (plainW_no h2 44 (by decide))]
  obtain ⟨e1, e2⟩ := split_toks h6 h4
  obtain ⟨e3, e4⟩ := split_toks h7 (by omega)
  rw [parse1_four hs, if_pos (by rw [e2, e4, h3]), e1, e3, ofL_toL, ofL_toL]
theorem rowL_no {u : Rec} (h : okRec u) : 10 ∉ rowL u := by
  obtain ⟨h1, h2, h3, h4, h5, h6, h7⟩ := h
  have a1 := plainW_no h1 10 (by decide)
  have a2 := plainW_no h2 10 (by decide)
  have a3 := jn_no h6 10 (by decide)
  have a4 := jn_no h7 10 (by decide)
  rw [rowL]
  simp [a1, a2, a3, a4]
theorem rowL_keep {u : Rec} (h : okRec u) : keepLine (rowL u) = true := by
  obtain ⟨h1, _⟩ := h
  have hn : toL u.1 ≠ [] := by
    intro e
    have := congrArg List.length e
    rw [toL_size] at this
    exact h1.1 this
  have hh : (rowL u).head? ≠ some 35 := by
    have hq := plainW_no h1 35 (by decide)
    rw [rowL]
    cases hc : toL u.1 with
    | nil => exact absurd hc hn
    | cons a r =>
      rw [hc] at hq
      simp at hq ⊢
      exact fun e => hq.1 e.symm
  have hne : rowL u ≠ [] := by rw [rowL]; simp [hn]
  simp [keepLine, hh, hne]
theorem rowL_strip {u : Rec} (h : okRec u) : strip (rowL u) = rowL u := by
  obtain ⟨_, h1, _⟩ := h
  have hn : toL u.2.2.2 ≠ [] := by
    intro e
    have := congrArg List.length e
    rw [toL_size] at this
    exact h1.1 this
  have hh : (rowL u).getLast? ≠ some 13 := by
    have e0 : rowL u = (toL u.1 ++ 44 :: (jn 32 (u.2.1.map toL) ++ 44 :: (jn 32 (u.2.2.1.map toL) ++ [44]))) ++ toL u.2.2.2 := by rw [rowL]; simp
    rw [e0, List.getLast?_append]
    intro e
    cases hc : (toL u.2.2.2).getLast? with
    | none => exact hn (List.getLast?_eq_none_iff.1 hc)
    | some x =>
      rw [hc] at e
      simp at e
      subst e
      exact plainW_no h1 13 (by decide) (List.mem_of_getLast? hc)
  rw [strip, if_neg hh]
theorem texts_app (s : List UInt8) : ∀ (us : List Rec), (∀ u ∈ us, okRec u) → texts (textL us ++ s) = us.map rowL ++ texts s
  | [], _ => rfl
  | u :: r, h => by
    have hu := h u (by simp)
    have := texts_app s r (fun x hx => h x (List.mem_cons_of_mem _ hx))
    rw [textL, List.append_assoc, List.cons_append, texts, rawL_app (rowL_no hu), List.map_cons, rowL_strip hu, List.filter_cons, if_pos (rowL_keep hu), List.map_cons, List.cons_append, ← this, texts]
theorem rows_parse : ∀ (us : List Rec), (∀ u ∈ us, okRec u) → (us.map rowL).mapM parse1 = some us
  | [], _ => rfl
  | u :: r, h => by
    rw [List.map_cons, List.mapM_cons, parse1_row (h u (by simp)), rows_parse r (fun x hx => h x (List.mem_cons_of_mem _ hx))]
    rfl
theorem parse_app (s : List UInt8) (us : List Rec) (h : ∀ u ∈ us, okRec u) : parse (textL us ++ s) = (parse s).map (us ++ ·) := by
  rw [parse, texts_app s us h, List.mapM_append, rows_parse us h, parse]
  cases (texts s).mapM parse1 <;> rfl
theorem rawL_count : ∀ (us : List Rec) (s : List UInt8), (∀ u ∈ us, okRec u) → (rawL (textL us ++ s)).length = us.length + (rawL s).length
  | [], s, _ => by simp [textL]
  | u :: r, s, h => by
    rw [textL, List.append_assoc, List.cons_append, rawL_app (rowL_no (h u (by simp))), List.length_cons, rawL_count r s (fun x hx => h x (List.mem_cons_of_mem _ hx)), List.length_cons]
    omega
theorem bulk_fit {xs : List ByteArray} (h : ∀ x ∈ xs, x.size ≤ 2147483647) : bulkT xs ≤ xs.length * 2147483648 := by
  induction xs with
  | nil => simp [bulkT]
  | cons x r ih =>
    have h1 := h x (by simp)
    have h2 := ih (fun y hy => h y (List.mem_cons_of_mem _ hy))
    have h3 : bulkT (x :: r) = x.size + 1 + bulkT r := by simp [bulkT]
    rw [h3, List.length_cons, Nat.add_mul]
    omega
theorem jn_fit {xs : List ByteArray} (h : ∀ x ∈ xs, x.size ≤ 2147483647) : (jn 32 (xs.map toL)).length ≤ xs.length * 2147483648 := by
  refine Nat.le_trans (jn_bulk 32 xs) ?_
  induction xs with
  | nil => simp [bulkT]
  | cons x r ih =>
    have h1 := h x (by simp)
    have h2 := ih (fun y hy => h y (List.mem_cons_of_mem _ hy))
    have h3 : bulkT (x :: r) = x.size + 1 + bulkT r := by simp [bulkT]
    rw [h3, List.length_cons, Nat.add_mul]
    omega
def fitR (u : Rec) : Prop := u.1.size ≤ 2147483647 ∧ u.2.2.2.size ≤ 2147483647 ∧ (∀ x ∈ u.2.1, x.size ≤ 2147483647) ∧ ∀ x ∈ u.2.2.1, x.size ≤ 2147483647
theorem rowL_fit {u : Rec} (h : okRec u) (hf : fitR u) : (rowL u).length ≤ 43 * 2147483648 := by
  obtain ⟨h1, h2, h3, h4, h5, h6, h7⟩ := h
  obtain ⟨f1, f2, f3, f4⟩ := hf
  have j1 := jn_fit f3
  have j2 := jn_fit f4
  have s1 := toL_size u.1
  have s2 := toL_size u.2.2.2
  have m1 : u.2.1.length * 2147483648 ≤ 20 * 2147483648 := Nat.mul_le_mul_right _ h5
  have m2 : u.2.2.1.length * 2147483648 ≤ 20 * 2147483648 := Nat.mul_le_mul_right _ (by omega)
  rw [rowL]
  simp only [List.length_append, List.length_cons]
  omega
theorem textL_fit : ∀ (us : List Rec), (∀ u ∈ us, okRec u) → (∀ u ∈ us, fitR u) → (textL us).length ≤ us.length * 100000000000
  | [], _, _ => by simp [textL]
  | u :: r, h, hf => by
    have h1 := rowL_fit (h u (by simp)) (hf u (by simp))
    have h2 := textL_fit r (fun x hx => h x (List.mem_cons_of_mem _ hx)) (fun x hx => hf x (List.mem_cons_of_mem _ hx))
    rw [textL, List.length_append, List.length_cons, List.length_cons, Nat.add_mul]
    omega
end Go.Proofs.Ytaniafohcaiedaa.Tx
