/-
  Marks: plain: the map of a list of marks, and its marks again.
-/
import Derived.Test.YtaniafohcaiedaaDoorMb2
import Derived.ChangeMaps
set_option linter.unusedVariables false
set_option linter.unusedSimpArgs false
namespace Go.Proofs.YtaniafohcaiedaaDoor.M
open Go.RowKit Go.Proofs.YtaniafohcaiedaaDoor.K Go.Proofs.YtaniafohcaiedaaDoorW.PrintWords Go.Maps Go.Sort Go.ChangeMaps

def ent (m : Mk) : Lit × DataW Unit := (mkKey m.1, mkVal m.2)
theorem mkKey_inj {a b : ByteArray} (h : mkKey a = mkKey b) : a = b := by
  simp only [mkKey, Lit.string.injEq] at h
  apply ByteArray.ext
  exact Array.ext' h
theorem mapL_gen : ∀ (l : List Mk) (E : List (Lit × DataW Unit)), E.Pairwise (fun p q => p.1.before q.1 = true) → StrKeys E → (∀ p ∈ E, ∀ m ∈ l, p.1 ≠ mkKey m.1) → l.Pairwise (fun a b => a.1 ≠ b.1) →
    ∃ E', l.foldl (fun (D : DataW Unit) (m : Mk) => D.put (mkKey m.1) (mkVal m.2)) (DataW.map E) = DataW.map E' ∧ E'.Perm (l.map ent ++ E) ∧ E'.Pairwise (fun p q => p.1.before q.1 = true) ∧ StrKeys E'
  | [], E, hs, hk, _, _ => ⟨E, rfl, by simp, hs, hk⟩
  | m :: r, E, hs, hk, hne, hd => by
    obtain ⟨h1, h2⟩ := List.pairwise_cons.1 hd
    have hf : E.filter (fun p => !p.1.sameKey (mkKey m.1)) = E := by
      refine List.filter_eq_self.2 fun p hp => ?_
      exact (notKey_iff ⟨_, rfl⟩ (hk p hp)).2 (hne p hp m (by simp))
    have hput : (DataW.map E).put (mkKey m.1) (mkVal m.2) = .map (DataW.insert (ent m) E) := by
      show DataW.map (DataW.insert (mkKey m.1, mkVal m.2) (E.filter fun p => !p.1.sameKey (mkKey m.1))) = _
      rw [hf]
      rfl
    obtain ⟨E', g1, g2, g3, g4⟩ := mapL_gen r (DataW.insert (ent m) E) (insert_sorted ⟨_, rfl⟩ E hs hk (fun p hp => hne p hp m (by simp)))
      (fun p hp => by
        rcases mem_insert_iff.1 hp with rfl | hp
        · exact ⟨_, rfl⟩
        · exact hk p hp)
      (fun p hp m' hm' => by
        rcases mem_insert_iff.1 hp with rfl | hp
        · exact fun e => h1 m' hm' (mkKey_inj e)
        · exact hne p hp m' (by simp [hm']))
      h2
    refine ⟨E', by rw [List.foldl_cons, hput, g1], ?_, g3, g4⟩
    refine g2.trans ?_
    rw [List.map_cons, List.cons_append]
    exact ((List.Perm.append_left _ (WideShapes.insert_perm (ent m) E)).trans List.perm_middle)
theorem before_lt : ∀ {a b : List UInt8}, bytesBefore a b = true → a < b
  | [], [], h => by cases h
  | [], _ :: _, _ => List.nil_lt_cons _ _
  | _ :: _, [], h => by cases h
  | a :: r, b :: s, h => by
    simp only [bytesBefore, Bool.or_eq_true, Bool.and_eq_true, decide_eq_true_eq, beq_iff_eq] at h
    rw [List.cons_lt_cons_iff]
    rcases h with h | ⟨h1, h2⟩
    · exact .inl h
    · exact .inr ⟨h1, before_lt h2⟩
/-- Ascending by name, no name twice. -/
def Asc (l : List Mk) : Prop := l.Pairwise (fun a b => a.1 ≠ b.1 ∧ a.1.data.toList ≤ b.1.data.toList)
theorem asc_before {l : List Mk} (h : Asc l) : (l.map ent).Pairwise (fun p q => p.1.before q.1 = true) := by
  rw [List.pairwise_map]
  refine List.Pairwise.imp ?_ h
  intro a b hab
  have hne : mkKey a.1 ≠ mkKey b.1 := fun e => hab.1 (mkKey_inj e)
  rcases before_total (a := mkKey a.1) (b := mkKey b.1) ⟨_, rfl⟩ ⟨_, rfl⟩ hne with h1 | h1
  · exact h1
  · have h2 : b.1.data.toList < a.1.data.toList := before_lt h1
    exact absurd hab.2 (List.not_le.2 h2)
/-- A list of marks in whatever order makes the map of the ascending one. -/
theorem mapL_perm {l l' : List Mk} (h : Asc l) (hp : l'.Perm l) : mapL l' = .map (l.map ent) := by
  have hd : l.Pairwise (fun a b => a.1 ≠ b.1) := List.Pairwise.imp (fun hab => hab.1) h
  have hd' : l'.Pairwise (fun a b => a.1 ≠ b.1) := (hp.pairwise_iff (fun {a b} (hab : a.1 ≠ b.1) => hab.symm)).2 hd
  obtain ⟨E', g1, g2, g3, g4⟩ := mapL_gen l' [] List.Pairwise.nil (fun p hp => by cases hp) (fun p hp => by cases hp) hd'
  have : E' = l.map ent := eq_of_perm_sorted (g2.trans (by rw [List.append_nil]; exact hp.map ent)) g3 (asc_before h)
  rw [← this]
  exact g1
theorem mapL_asc {l : List Mk} (h : Asc l) : mapL l = .map (l.map ent) := mapL_perm h (List.Perm.refl l)
theorem keys_asc (l : List Mk) : strKeys (DataW.map (l.map ent)) = l.map fun m => m.1.data.toList := by
  simp [strKeys, ent, strOf, mkKey]
theorem find_asc : ∀ {l : List Mk}, Asc l → ∀ m ∈ l, (l.map ent).find? (fun p => p.1.sameKey (mkKey m.1)) = some (ent m)
  | a :: r, h, m, hm => by
    obtain ⟨h1, h2⟩ := List.pairwise_cons.1 h
    rw [List.map_cons, List.find?_cons]
    rcases List.mem_cons.1 hm with rfl | hm
    · simp [ent, mkKey, Lit.sameKey]
    · have hf : (ent a).1.sameKey (mkKey m.1) = false := by
        rw [Bool.eq_false_iff]
        intro e
        simp only [ent, mkKey, Lit.sameKey, beq_iff_eq] at e
        exact (h1 m hm).1 (mkKey_inj (by simp [mkKey, e]))
      rw [hf]
      exact find_asc h2 m hm
theorem wrap_small {v : Int} (h0 : 0 ≤ v) (h1 : v ≤ 100) : IntKind.i8.wrap v = v := by
  simp only [IntKind.wrap, IntKind.signed, IntKind.bits]
  simp
  omega
/-- The marks of a map of ascending marks are these. -/
theorem back_asc {l : List Mk} (h : Asc l) (hv : ∀ m ∈ l, 0 ≤ m.2 ∧ m.2 ≤ 100) : backL (.map (l.map ent)) = l := by
  unfold backL
  rw [keys_asc]
  have hs : (l.map fun m => m.1.data.toList).mergeSort leB = l.map fun m => m.1.data.toList := by
    refine List.mergeSort_of_pairwise ?_
    rw [List.pairwise_map]
    refine List.Pairwise.imp ?_ h
    intro a b hab
    simpa [leB] using hab.2
  rw [hs, List.map_map]
  have hc : ∀ m ∈ l, ((fun x => (mkS x, valAt (.map (l.map ent)) x)) ∘ fun m : Mk => m.1.data.toList) m = id m := by
    intro m hm
    have hf := find_asc h m hm
    have hva : valAt (.map (l.map ent)) m.1.data.toList = m.2 := by
      unfold valAt DataW.atKey
      have hf' : (l.map ent).find? (fun p => p.1.sameKey (.string m.1.data.toList)) = some (ent m) := hf
      simp only [hf']
      show (match mkVal m.2 with | .lit (.int _ c) => c | _ => 0) = m.2
      simp only [mkVal]
      exact wrap_small (hv m hm).1 (hv m hm).2
    show (mkS m.1.data.toList, valAt (.map (l.map ent)) m.1.data.toList) = m
    rw [hva]
    rfl
  rw [List.map_congr_left hc, List.map_id]
end Go.Proofs.YtaniafohcaiedaaDoor.M
