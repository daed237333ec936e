/-
  Rows of texts of a call's own, kept across calls and appends.
-/
import Derived.Test.YtaniafohcaiedaaDoorSr
set_option linter.unusedVariables false
set_option linter.unusedSimpArgs false
namespace Go.Proofs.YtaniafohcaiedaaDoor.Sn
open Go.RowKit Go.Proofs.YtaniafohcaiedaaDoor.K Go.Proofs.YtaniafohcaiedaaDoorW.PrintWords

/-- A row of texts of one's own, from block base on. -/
def Own (w : World) (v : Value) (xs : List ByteArray) : Prop := w.ownsRow 0 9 1 v xs.length (xs.map Value.string)
theorem own_of_R {e base : Nat} {ok : Nat → Prop} {w : World} {v : Value} {xs : List ByteArray} (h : Kd.string.R e w base ok v xs) (he : e = 9) : Own w v xs := by
  subst he
  obtain ⟨h0, inner, ho, hr⟩ := h
  have hi : inner = xs.map Value.string := by
    have hl : inner.length = xs.length := by have := hr.1; rw [this]; exact Nat.mul_one _
    refine List.ext_getElem (by simpa using hl) ?_
    intro j h1 h2
    have hj : j < xs.length := by omega
    have := hr.2 j xs[j] (List.getElem?_eq_getElem hj)
    have e1 : (inner.drop (j * Kd.string.sz)).take Kd.string.sz = [Value.string xs[j]] := this
    have e2 : Kd.string.sz = 1 := rfl
    rw [e2, Nat.mul_one] at e1
    have e3 := congrArg (fun l => l[0]?) e1
    simp only [List.getElem?_take, List.getElem?_drop, Nat.add_zero, List.getElem?_cons_zero] at e3
    rw [if_pos (by omega), List.getElem?_eq_getElem h1] at e3
    simpa using e3
  subst hi
  exact own_weaken ho (Nat.zero_le _)
theorem own_from_R {e base : Nat} {ok : Nat → Prop} {w : World} {v : Value} {xs : List ByteArray} (h : Kd.string.R e w base ok v xs) : ∀ k, v.ownBlock = some k → base ≤ k := by
  obtain ⟨h0, inner, ho, hr⟩ := h
  exact fun k hk => own_base ho k hk
theorem Own.lt {w : World} {v : Value} {xs : List ByteArray} (h : Own w v xs) (k : Nat) (hk : v.ownBlock = some k) : k < w.heap.size := by
  obtain ⟨cur, hc⟩ := own_heap h hk
  exact lt_of_heap hc
theorem Own.below {w w1 : World} {v : Value} {xs : List ByteArray} (h : Own w v xs) (hb : Below w.heap.size w w1) : Own w1 v xs := own_keep h fun k hk => hb.block k (h.lt k hk)
theorem own_empty (W : World) : Own (W.alloc (.cells #[] 9)) (.slice (some ⟨W.heap.size, 0, none⟩) 0 0) [] := World.ownsRow_made W #[] 0 (Nat.zero_le _) (Nat.zero_le _) (by simp)
theorem Own.reads {w : World} {v : Value} {xs : List ByteArray} (h : Own w v xs) : ∃ A c, v = .slice A xs.length c ∧ Kd.string.C w A xs.length xs := by
  obtain ⟨A, c, he, hc, hr⟩ := own_reads_of_le (enc := Value.string) (d := ByteArray.empty) (xs := xs) h
  exact ⟨A, c, he, Kd.C_of_reads (enc := Value.string) (d := ByteArray.empty) (h1 := fun _ => rfl) hr⟩
theorem Own.reads' {w : World} {A : Option Addr} {n c : Nat} {xs : List ByteArray} (h : Own w (.slice A n c) xs) : Kd.string.C w A xs.length xs := by
  obtain ⟨A', c', he, hr⟩ := h.reads
  cases he
  exact hr
/-- Two rows that do not share their block. -/
def Apart (v u : Value) : Prop := ∀ k, v.ownBlock = some k → u.ownBlock ≠ some k

section
variable {P : Program} {ops : Array Oper} {o : Oper} {a : Act} {Q : Exit → Act → World → Prop} {K : Act → World → Prop}
/-- append(v, ys...) as a step of a region: v a row of texts of the call's own. -/
theorem own_step {w0 W : World} (base : Nat) (hw : Region.wanted o (yielded ops a.tmps) = true) (s x : Operand) (t : TypeId) (bytes : Nat)
    (ho : o.op = .call { callee := .builtin .append, args := #[s, x], argTypes := #[t, t] })
    (ht : P.underlying t = some (.slice 9)) (hinfo : (P.info? 9).map (fun i => (i.zero, i.size, i.bytes)) = some (some (.string ⟨#[]⟩), 1, bytes)) (hb0 : 0 < bytes)
    (v : Value) (xs ys : List ByteArray) (A : Option Addr) (m c : Nat) (hs : a.eval s = v) (hx : a.eval x = .slice A m c)
    (HO : Own W v xs) (HR : Kd.string.C W A m ys) (HB : Below base w0 W) (hbv : ∀ k, v.ownBlock = some k → base ≤ k) (hbase : base ≤ W.heap.size) (hl : (xs.length + m) * bytes ≤ 140737488355328)
    (h : ∀ v1 w1, Own w1 v1 (xs ++ ys) → Below base w0 w1 → (∀ k, v1.ownBlock = some k → base ≤ k) → (∀ u zs, Own W u zs → Apart u v → Own w1 u zs ∧ Apart u v1) → K (a.put o.dst v1) w1) :
    if Region.wanted o (yielded ops a.tmps) = true then Oper.wp P o a W K Q else K (a.put o.dst undef) W := by
  rw [if_pos hw]
  obtain ⟨i0, hi, hzz⟩ := Option.map_eq_some_iff.1 hinfo
  simp only [Prod.mk.injEq] at hzz
  obtain ⟨hz0, hz1, hz2⟩ := hzz
  have hm : ys.length = m := HR.1
  have hlen : xs.length + m ≤ 140737488355328 := Nat.le_trans (Nat.le_mul_of_pos_right _ hb0) hl
  have hrun : ∃ v1 w1, (Builtin.append_ #[t, t] o.type #[v, .slice A m c]).run P W = .ok v1 w1 ∧ Own w1 v1 (xs ++ ys) ∧ W.grownBy w1 v.ownBlock ∧ (v1.ownBlock = v.ownBlock ∨ v1.ownBlock = some W.heap.size) := by
    by_cases h0 : A = none
    · subst h0
      obtain rfl : ys = [] := by
        cases ys with
        | nil => rfl
        | cons y r => obtain ⟨ad, h', _⟩ := HR.2.2 (by rw [← hm]; simp); cases h'
      simp at hm
      subst hm
      refine ⟨v, W, ?_, by simpa using HO, World.grownBy.refl W _, .inl rfl⟩
      rcases HO.2 with ⟨rfl, hn⟩ | ⟨g, cap, cur, rfl, _, _, hnc, _⟩
      · simp [Builtin.append_, run_underlying ht, sizeOf, typeInfo, hi, Builtin.lenOf, Builtin.firstCells]
      · simp [Builtin.append_, run_underlying ht, sizeOf, typeInfo, hi, Builtin.lenOf, Builtin.firstCells, hnc, storeCells]
    · obtain ⟨ad, rfl⟩ : ∃ ad, A = some ad := by cases A with
        | none => exact absurd rfl h0
        | some ad => exact ⟨ad, rfl⟩
      obtain ⟨v1, w1, hr, h2, h3, _, h5⟩ := run_append_own_at (P := P) W 0 t o.type 9 i0 (.string ⟨#[]⟩) 1 bytes ht hi hz0 hz1 hz2 rfl (by omega) v xs.length (xs.map Value.string) HO ad m c (ys.map Value.string) (by simp [hm])
        (by
          intro j u hj
          have hjl : j < ys.length := by
            have := (List.getElem?_eq_some_iff.1 hj).1
            simpa using this
          obtain ⟨ad', he, hc⟩ := strs_at HR j hjl
          cases he
          rw [hc]
          simpa [List.getElem?_eq_getElem hjl] using hj)
        (by intro u hu; simp only [List.mem_map] at hu; obtain ⟨q, _, rfl⟩ := hu; rfl) (by simp only [maxLen]; omega) hl (Nat.zero_le _)
      exact ⟨v1, w1, hr, by unfold Own; rw [List.length_append, hm, List.map_append]; exact h2, h3, h5⟩
  obtain ⟨v1, w1, hr, hown, hg, hat⟩ := hrun
  unfold Oper.wp execOp
  simp only [ho, resolve, invoke, builtin, Sem.run_bind, Sem.run_pure, Result.andThen_ok, List.map_toArray, List.map_cons, List.map_nil, hs, hx, hr]
  refine h v1 w1 hown (HB.grown hg hbase hbv) ?_ ?_
  · intro k hk
    rcases hat with h1 | h1
    · exact hbv k (h1 ▸ hk)
    · rw [h1] at hk; cases hk; exact hbase
  · intro u zs hu hap
    refine ⟨own_keep hu fun k hk => hg.block k (hu.lt k hk) (fun e => hap k hk e.symm), ?_⟩
    intro k hk
    rcases hat with h1 | h1
    · rw [h1]; exact hap k hk
    · rw [h1]
      intro e
      have := hu.lt k hk
      cases e
      omega
end
end Go.Proofs.YtaniafohcaiedaaDoor.Sn
