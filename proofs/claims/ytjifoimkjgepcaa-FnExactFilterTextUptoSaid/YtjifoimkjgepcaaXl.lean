/-
  Plain: how great a tree of filters and its text can be.
-/
import Derived.Test.YtjifoimkjgepcaaXc
import Derived.Test.YtjifoimkjgepcaaEb
set_option linter.unusedVariables false
set_option linter.unusedSimpArgs false
namespace Go.Proofs.Ytjifoimkjgepcaa.Flt
open Go.RowKit Go.Proofs.Ytjifoimkjgepcaa.K Go.Proofs.Ytjifoimkjgepcaa.Fx Go.Proofs.Ytjifoimkjgepcaa.Da

theorem nK_append : ∀ a b, nK (a ++ b) = nK a + nK b
  | [], b => by simp [nK]
  | (n, t) :: r, b => by rw [List.cons_append, nK, nK, nK_append r b]; omega
theorem nT_kids (t : FT) : nT t = 1 + nK t.kids := by cases t; rfl
theorem nK_set : ∀ (l : List (ByteArray × FT)) (j : Nat) (h : j < l.length) (n : ByteArray) (t : FT), nK (l.set j (n, t)) + nT l[j].2 = nK l + nT t
  | (m, u) :: r, 0, h, n, t => by simp only [List.set_cons_zero, nK, List.getElem_cons_zero]; omega
  | (m, u) :: r, j + 1, h, n, t => by
    have := nK_set r j (by simpa using h) n t
    simp only [List.set_cons_succ, nK, List.getElem_cons_succ]
    omega
theorem textK_set (k : Nat) : ∀ (l : List (ByteArray × FT)) (j : Nat) (h : j < l.length) (t : FT), (textK k (l.set j (l[j].1, t))).length + (textT (k + 1) l[j].2).length = (textK k l).length + (textT (k + 1) t).length
  | (m, u) :: r, 0, h, t => by simp only [List.set_cons_zero, textK, List.getElem_cons_zero, List.length_append]; omega
  | (m, u) :: r, j + 1, h, t => by
    have := textK_set k r j (by simpa using h) t
    simp only [List.set_cons_succ, textK, List.getElem_cons_succ, List.length_append]
    omega
/-- What a filter adds to the text at most. -/
def costP : Nat → List ByteArray → Nat
  | _, [] => 0
  | k, v :: r => 2 * k + v.size + 1 + costP (k + 1) r
theorem costP_le : ∀ (fs : List ByteArray) (k : Nat), costP k fs ≤ fs.length * (2 * (k + fs.length)) + sumL fs
  | [], k => by simp [costP]
  | v :: r, k => by
    have := costP_le r (k + 1)
    simp only [costP, sumL, List.length_cons]
    have e : (r.length + 1) * (2 * (k + (r.length + 1))) = r.length * (2 * (k + 1 + r.length)) + 2 * (k + (r.length + 1)) := by
      rw [Nat.add_mul, Nat.one_mul, show k + (r.length + 1) = k + 1 + r.length by omega]
    omega
theorem addT_bound : ∀ (fs : List ByteArray) (t : FT) (k : Nat), nT (addT fs t) ≤ nT t + fs.length ∧ (textT k (addT fs t)).length ≤ (textT k t).length + costP k fs
  | [], t, k => by simp [addT, costP]
  | v :: fs, t, k => by
    have h0 := addT_bound fs (.mk []) (k + 1)
    have z1 : nT (.mk []) = 1 := by simp [nT, nK]
    have z2 : (textT (k + 1) (.mk [])).length = 0 := by simp [textT, textK]
    have hv : v.data.toList.length = v.size := Array.length_toList
    have ek : ∀ l, (FT.mk l).kids = l := fun _ => rfl
    rw [addT]
    split
    · rename_i hix
      constructor
      · rw [nT_kids, nT_kids t]
        simp only [ek, nK_append, nK, List.length_cons]
        omega
      · rw [textT_kids, textT_kids k t]
        simp only [ek, textK_append, textK, List.length_append, sp_length, hv, List.length_singleton, costP, List.length_nil]
        omega
    · rename_i j hix
      have hj : j < t.kids.length := by simpa using ixN_lt hix
      have hg : t.kids.getD j default = t.kids[j] := by simp [List.getD, hj]
      rw [hg]
      split
      · simp only [List.length_cons, costP]
        omega
      · split
        · have a1 := nK_set t.kids j hj t.kids[j].1 (.mk [])
          have a2 := textK_set k t.kids j hj (.mk [])
          have a3 : 1 ≤ nT t.kids[j].2 := by rw [nT_kids]; omega
          constructor
          · rw [nT_kids, nT_kids t]
            simp only [ek, List.length_cons]
            omega
          · rw [textT_kids, textT_kids k t]
            simp only [ek, costP]
            omega
        · have h1 := addT_bound fs t.kids[j].2 (k + 1)
          have a1 := nK_set t.kids j hj t.kids[j].1 (addT fs t.kids[j].2)
          have a2 := textK_set k t.kids j hj (addT fs t.kids[j].2)
          constructor
          · rw [nT_kids, nT_kids t]
            simp only [ek, List.length_cons]
            omega
          · rw [textT_kids, textT_kids k t]
            simp only [ek, costP]
            omega
theorem len_sumL (xs : List ByteArray) : xs.length ≤ sumL xs := by
  induction xs with
  | nil => simp
  | cons x r ih => simp only [sumL, List.length_cons]; omega
theorem addAll_bound : ∀ (fs : List (List ByteArray)) (t : FT), sumLL fs ≤ 4000 → nT (addAll fs t) ≤ nT t + sumLL fs ∧ (textT 0 (addAll fs t)).length ≤ (textT 0 t).length + 10000 * sumLL fs
  | [], t, h => by simp [addAll]
  | f :: r, t, h => by
    have e : addAll (f :: r) t = addAll r (addT f t) := rfl
    simp only [sumLL] at h ⊢
    have h1 := addAll_bound r (addT f t) (by omega)
    have h2 := addT_bound f t 0
    have h3 := costP_le f 0
    have h4 := len_sumL f
    have h5 : f.length * (2 * (0 + f.length)) ≤ sumL f * 8000 := Nat.mul_le_mul h4 (by omega)
    rw [e]
    omega
end Go.Proofs.Ytjifoimkjgepcaa.Flt
