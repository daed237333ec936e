/-
  The walks of laws.white, laws.splits and laws.zzFits18.
-/
import Derived.Test.YtaniafohcaiedaaDoorSg
import Derived.Maps.AppendAt
set_option linter.unusedVariables false
set_option linter.unusedSimpArgs false
namespace Go.Proofs.YtaniafohcaiedaaDoor.Sn
open Go.RowKit Go.Proofs.YtaniafohcaiedaaDoor.K Go.Proofs.YtaniafohcaiedaaDoorW.PrintWords

section
variable {P : Program} {ops : Array Oper} {o : Oper} {a : Act} {Q : Exit → Act → World → Prop} {K : Act → World → Prop}
/-- append(v, ys...) as a step of a region: v a row of numbers of the call's own. -/
theorem rows_step {w0 W : World} (base : Nat) (hw : Region.wanted o (yielded ops a.tmps) = true) (s x : Operand) (t e : TypeId) (k : IntKind) (bytes : Nat)
    (ho : o.op = .call { callee := .builtin .append, args := #[s, x], argTypes := #[t, t] })
    (ht : P.underlying t = some (.slice e)) (hinfo : (P.info? e).map (fun i => (i.zero, i.size, i.bytes)) = some (some (.int k 0), 1, bytes)) (hb0 : 0 < bytes)
    (v : Value) (xs ys : List Int) (A : Option Addr) (m c : Nat) (hs : a.eval s = v) (hx : a.eval x = .slice A m c)
    (HO : W.ownsRow base e 1 v xs.length (nums k xs)) (HR : (Kd.int k).C W A m ys) (HB : Below base w0 W) (hbase : base ≤ W.heap.size) (hl : (xs.length + m) * bytes ≤ 140737488355328)
    (h : ∀ v1 w1, w1.ownsRow base e 1 v1 (xs ++ ys).length (nums k (xs ++ ys)) → Below base w0 w1 → K (a.put o.dst v1) w1) :
    if Region.wanted o (yielded ops a.tmps) = true then Oper.wp P o a W K Q else K (a.put o.dst undef) W := by
  rw [if_pos hw]
  obtain ⟨i0, hi, hzz⟩ := Option.map_eq_some_iff.1 hinfo
  simp only [Prod.mk.injEq] at hzz
  obtain ⟨hz0, hz1, hz2⟩ := hzz
  have hm : ys.length = m := HR.1
  have hlen : xs.length + m ≤ 140737488355328 := Nat.le_trans (Nat.le_mul_of_pos_right _ hb0) hl
  have hrun : ∃ v1 w1, (Builtin.append_ #[t, t] o.type #[v, .slice A m c]).run P W = .ok v1 w1 ∧ w1.ownsRow base e 1 v1 (xs ++ ys).length (nums k (xs ++ ys)) ∧ W.grownBy w1 v.ownBlock := by
    by_cases h0 : A = none
    · subst h0
      obtain rfl : ys = [] := by
        cases ys with
        | nil => rfl
        | cons y r => obtain ⟨ad, h', _⟩ := HR.2.2 (by rw [← hm]; simp); cases h'
      simp at hm
      subst hm
      refine ⟨v, W, ?_, by simpa using HO, World.grownBy.refl W _⟩
      rcases HO.2 with ⟨rfl, hn⟩ | ⟨g, cap, cur, rfl, _, _, hnc, _⟩
      · simp [Builtin.append_, run_underlying ht, sizeOf, typeInfo, hi, Builtin.lenOf, Builtin.firstCells]
      · simp [Builtin.append_, run_underlying ht, sizeOf, typeInfo, hi, Builtin.lenOf, Builtin.firstCells, hnc, storeCells]
    · obtain ⟨ad, rfl⟩ : ∃ ad, A = some ad := by cases A with
        | none => exact absurd rfl h0
        | some ad => exact ⟨ad, rfl⟩
      obtain ⟨v1, w1, hr, h2, h3, _, _⟩ := run_append_own_at (P := P) W base t o.type e i0 (.int k 0) 1 bytes ht hi hz0 hz1 hz2 rfl (by omega) v xs.length (nums k xs) HO ad m c (nums k ys) (by simp [nums, hm])
        (by
          intro j u hj
          have hjl : j < ys.length := by
            have := (List.getElem?_eq_some_iff.1 hj).1
            simpa [nums] using this
          obtain ⟨ad', he, hc⟩ := runes_at HR j hjl
          cases he
          rw [hc]
          simpa [nums, List.getElem?_eq_getElem hjl] using hj)
        (by intro u hu; simp only [nums, List.mem_map] at hu; obtain ⟨q, _, rfl⟩ := hu; rfl) (by simp only [maxLen]; omega) hl hbase
      exact ⟨v1, w1, hr, by rw [List.length_append, hm, nums_append]; exact h2, h3⟩
  obtain ⟨v1, w1, hr, hown, hg⟩ := hrun
  unfold Oper.wp execOp
  simp only [ho, resolve, invoke, builtin, Sem.run_bind, Sem.run_pure, Result.andThen_ok, List.map_toArray, List.map_cons, List.map_nil, hs, hx, hr]
  exact h v1 w1 hown (HB.grown hg hbase (own_base HO))
end

/-- Whether a character is white space. -/
def BoolIf (p : Prop) (w : World) (e : Ending) (w' : World) : Prop := ∃ b : Bool, e = .returned (.bool b) ∧ (b = true → p) ∧ Below w.heap.size w w'
def BoolQ (w : World) (e : Ending) (w' : World) : Prop := ∃ b, e = .returned (.bool b) ∧ w' = w
set_option maxHeartbeats 4000000 in
set_option maxRecDepth 5000 in
theorem white_any (r : Int) (w : World) : Calls Tryd.prog 55 #[.int .i32 r] w (BoolQ w) := by
  go_enter Tryd.func55, Tryd.ntmps55
  go_wp2_with fail
  all_goals
    go_ret
    exact ⟨_, rfl, rfl⟩
theorem zzFits18_any (D F : Option Addr) (nd cd nf cf : Nat) (sk db : Bool) (most : Int) (w : World) (hd : nd ≤ 9223372036854775807) (hf : nf ≤ 9223372036854775807) :
    Calls Tryd.prog 28 #[splV D F nd cd nf cf sk db most] w (BoolIf (nd ≤ 2147483647 ∧ nf ≤ 2147483647) w) := by
  go_enter Tryd.func28, Tryd.ntmps28
  by_cases h1 : 2147483647 < nd
  · go_wp2_with fail
    go_ret
    exact ⟨false, rfl, by simp, (Below.refl _ _).alloc (Nat.le_refl _) _⟩
  by_cases h2 : 2147483647 < nf
  · go_wp2_with fail
    go_ret
    exact ⟨false, rfl, by simp, (Below.refl _ _).alloc (Nat.le_refl _) _⟩
  go_wp2_with fail
  go_ret
  exact ⟨true, rfl, fun _ => ⟨by omega, by omega⟩, (Below.refl _ _).alloc (Nat.le_refl _) _⟩
end Go.Proofs.YtaniafohcaiedaaDoor.Sn
