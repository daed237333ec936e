/-
  The plain law of the filters' order: without places for any a tree takes just what one of its filters begins.
-/
import Derived.Test.YtaniafohcaiedaaFltM
import Derived.Test.YtaniafohcaiedaaK
set_option linter.unusedVariables false
set_option linter.unusedSimpArgs false
namespace Go.Proofs.Ytaniafohcaiedaa.Flt
open Go.Proofs.Ytaniafohcaiedaa.K

abbrev anyS : ByteArray := ⟨#[0]⟩
/-- No edge is any. -/
inductive NA : FT → Prop
  | make (kids : List (ByteArray × FT)) (h : ∀ k ∈ kids, k.1 ≠ anyS) (h2 : ∀ k ∈ kids, NA k.2) : NA (.mk kids)
theorem NA.mk (kids : List (ByteArray × FT)) (h : ∀ k ∈ kids, k.1 ≠ anyS ∧ NA k.2) : NA (.mk kids) := NA.make kids (fun k hk => (h k hk).1) (fun k hk => (h k hk).2)
theorem NA.kid {t : FT} (h : NA t) : ∀ k ∈ t.kids, k.1 ≠ anyS ∧ NA k.2 := by
  cases h with
  | make kids h1 h2 => exact fun k hk => ⟨h1 k hk, h2 k hk⟩
theorem NA.leaf : NA (.mk []) := NA.mk [] (by simp)
theorem anyS_list : anyS.toList = [0] := by decide +kernel

def isPre : List ByteArray → List ByteArray → Bool
  | [], _ => true
  | _ :: _, [] => false
  | v :: f, x :: xs => decide (v = x) && isPre f xs
def preB (f x : List ByteArray) : Bool := !f.isEmpty && isPre f x

theorem hit_iff {s n : ByteArray} (h : n ≠ anyS) : hit s n = true ↔ n = s := by
  unfold hit
  rw [Bool.or_eq_true, beq_iff_eq, beq_iff_eq]
  constructor
  · rintro (h' | h')
    · exact absurd (ba_toList (b := anyS) (h'.trans anyS_list.symm)) h
    · exact ba_toList h'
  · rintro rfl; exact .inr rfl

theorem ixN_some {s : ByteArray} : ∀ {ns : List ByteArray} {j : Nat}, (∀ n ∈ ns, n ≠ anyS) → ixN s ns = some j → ns[j]? = some s
  | [], j, _, h => by simp [ixN] at h
  | n :: ns, j, hn, h => by
    unfold ixN at h
    by_cases hh : hit s n = true
    · rw [if_pos hh] at h
      simp at h
      subst h
      rw [(hit_iff (hn n (by simp))).1 hh]; rfl
    · rw [if_neg hh] at h
      obtain ⟨i, hi, rfl⟩ := Option.map_eq_some_iff.1 h
      simpa using ixN_some (fun m hm => hn m (List.mem_cons_of_mem _ hm)) hi
theorem ixN_none {s : ByteArray} : ∀ {ns : List ByteArray}, (∀ n ∈ ns, n ≠ anyS) → ixN s ns = none → s ∉ ns
  | [], _, _ => by simp
  | n :: ns, hn, h => by
    unfold ixN at h
    by_cases hh : hit s n = true
    · rw [if_pos hh] at h; cases h
    · rw [if_neg hh] at h
      have h1 : ixN s ns = none := by simpa using h
      intro hm
      rcases List.mem_cons.1 hm with rfl | hm
      · exact hh ((hit_iff (hn _ (by simp))).2 rfl)
      · exact ixN_none (fun m hm => hn m (List.mem_cons_of_mem _ hm)) h1 hm
theorem ixN_append (s v : ByteArray) : ∀ ns : List ByteArray, ixN s (ns ++ [v]) = match ixN s ns with | some j => some j | none => if hit s v then some ns.length else none
  | [] => by simp [ixN]
  | n :: ns => by
    rw [List.cons_append, ixN, ixN]
    by_cases hh : hit s n = true
    · rw [if_pos hh, if_pos hh]
    · rw [if_neg hh, if_neg hh, ixN_append s v ns]
      cases ixN s ns with
      | some j => simp
      | none => by_cases h2 : hit s v = true <;> simp [h2]

theorem names_na {t : FT} (h : NA t) : ∀ n ∈ t.kids.map (·.1), n ≠ anyS := by
  intro n hn
  obtain ⟨k, hk, rfl⟩ := List.mem_map.1 hn
  exact (h.kid k hk).1
theorem addT_na : ∀ (f : List ByteArray) (t : FT), NA t → anyS ∉ f → NA (addT f t)
  | [], t, h, _ => h
  | v :: fs, t, h, hf => by
    have hv : v ≠ anyS := fun e => hf (by simp [e])
    have hfs : anyS ∉ fs := fun e => hf (List.mem_cons_of_mem _ e)
    unfold addT
    cases hix : ixN v (t.kids.map (·.1)) with
    | none =>
      refine NA.mk _ fun k hk => ?_
      rcases List.mem_append.1 hk with hk | hk
      · exact h.kid k hk
      · rw [List.mem_singleton] at hk; subst hk; exact ⟨hv, addT_na fs _ NA.leaf hfs⟩
    | some j =>
      have hj : j < t.kids.length := by have := ixN_lt hix; simpa using this
      have hg : t.kids.getD j default = t.kids[j] := by simp [List.getD, hj]
      have hkj := h.kid t.kids[j] (List.getElem_mem hj)
      simp only []
      rw [hg]
      split
      · exact h
      · split
        · refine NA.mk _ fun k hk => ?_
          rcases List.mem_or_eq_of_mem_set hk with hk | rfl
          · exact h.kid k hk
          · exact ⟨hkj.1, NA.leaf⟩
        · refine NA.mk _ fun k hk => ?_
          rcases List.mem_or_eq_of_mem_set hk with hk | rfl
          · exact h.kid k hk
          · exact ⟨hkj.1, addT_na fs _ hkj.2 hfs⟩
theorem addT_kids_ne {f : List ByteArray} {t : FT} (h : f ≠ [] ∨ t.kids ≠ []) : (addT f t).kids ≠ [] := by
  cases f with
  | nil => exact h.resolve_left (by simp)
  | cons v fs =>
    unfold addT
    cases hix : ixN v (t.kids.map (·.1)) with
    | none => simp [FT.kids]
    | some j =>
      have hj : j < t.kids.length := by have := ixN_lt hix; simpa using this
      have hne : t.kids ≠ [] := by intro e; rw [e] at hj; simp at hj
      simp only []
      split
      · exact hne
      · split
        · show t.kids.set _ _ ≠ []
          simpa using hne
        · show t.kids.set _ _ ≠ []
          simpa using hne
theorem set_names (l : List (ByteArray × FT)) (j : Nat) (hj : j < l.length) (t : FT) : (l.set j (l[j].1, t)).map (·.1) = l.map (·.1) := by
  rw [List.map_set]
  apply List.ext_getElem?
  intro i
  rw [List.getElem?_set]
  split
  · rename_i e; subst e; simp [hj]
  · rfl
theorem accT_cons (u : ByteArray) (xs : List ByteArray) (t : FT) : accT (u :: xs) t = match ixN u (t.kids.map (·.1)) with
    | none => false
    | some j => if (t.kids.getD j default).2.kids.isEmpty then true else accT xs (t.kids.getD j default).2 := rfl

theorem acc_add : ∀ (f : List ByteArray) (t : FT) (x : List ByteArray), NA t → anyS ∉ f → accT x (addT f t) = (accT x t || preB f x)
  | [], t, x, _, _ => by simp [addT, preB]
  | v :: fs, t, [], _, _ => by simp [accT, preB, isPre]
  | v :: fs, t, u :: xs, h, hf => by
    have hv : v ≠ anyS := fun e => hf (by simp [e])
    have hfs : anyS ∉ fs := fun e => hf (List.mem_cons_of_mem _ e)
    have hna := names_na h
    have hpre : preB (v :: fs) (u :: xs) = (decide (v = u) && isPre fs xs) := by simp [preB, isPre]
    rw [hpre]
    unfold addT
    cases hix : ixN v (t.kids.map (·.1)) with
    | none =>
      simp only []
      rw [accT_cons, accT_cons]
      have hk : (FT.mk (t.kids ++ [(v, addT fs (.mk []))])).kids = t.kids ++ [(v, addT fs (.mk []))] := rfl
      rw [hk, List.map_append, List.map_singleton, ixN_append]
      cases hu : ixN u (t.kids.map (·.1)) with
      | some j =>
        have hj : j < t.kids.length := by have := ixN_lt hu; simpa using this
        have hne : v ≠ u := by
          rintro rfl
          rw [hix] at hu; cases hu
        simp only []
        rw [show (t.kids ++ [(v, addT fs (.mk []))]).getD j default = t.kids.getD j default by simp [List.getD, List.getElem?_append_left hj]]
        simp [hne]
      | none =>
        simp only []
        by_cases hvu : v = u
        · subst hvu
          rw [if_pos ((hit_iff hv).2 rfl)]
          simp only [List.length_map]
          rw [show (t.kids ++ [(v, addT fs (.mk []))]).getD t.kids.length default = (v, addT fs (.mk [])) by simp [List.getD]]
          simp only [decide_true, Bool.true_and, Bool.false_or]
          cases fs with
          | nil => simp [addT, FT.kids, isPre]
          | cons w fs =>
            rw [if_neg (by simpa using addT_kids_ne (t := .mk []) (.inl (by simp))), acc_add (w :: fs) (.mk []) xs NA.leaf hfs]
            cases xs with
            | nil => simp [accT, preB]
            | cons y ys => simp [accT_cons, FT.kids, ixN, preB]
        · have hno : hit u v = false := by
            cases hh : hit u v with
            | false => rfl
            | true => exact absurd ((hit_iff hv).1 hh) hvu
          rw [hno]
          simp [hvu]
    | some j =>
      have hj : j < t.kids.length := by have := ixN_lt hix; simpa using this
      have hg : t.kids.getD j default = t.kids[j] := by simp [List.getD, hj]
      have hkj := h.kid t.kids[j] (List.getElem_mem hj)
      have hnj : t.kids[j].1 = v := by
        have := ixN_some hna hix
        simpa [hj] using this
      -- another place is another text
      have hother : ∀ i, ixN u (t.kids.map (·.1)) = some i → i ≠ j → v ≠ u := by
        rintro i hi hij rfl
        rw [hix] at hi
        injection hi with hi
        exact hij hi.symm
      have hnone : ixN u (t.kids.map (·.1)) = none → v ≠ u := by
        rintro hn rfl
        rw [hix] at hn; cases hn
      have hsame : ixN u (t.kids.map (·.1)) = some j → v = u := by
        intro hi
        have := ixN_some hna hi
        rw [← hnj]
        simpa [hj] using this
      simp only []
      rw [hg]
      by_cases hl : t.kids[j].2.kids.isEmpty = true
      · rw [if_pos hl]
        by_cases hvu : v = u
        · subst hvu
          have : accT (v :: xs) t = true := by
            rw [accT_cons, hix]
            simp only [hg]
            rw [if_pos hl]
          rw [this]; rfl
        · simp [hvu]
      · rw [if_neg hl]
        -- the tree with the child at j changed
        have key : ∀ c : FT, accT (u :: xs) (.mk (t.kids.set j (t.kids[j].1, c))) = match ixN u (t.kids.map (·.1)) with
            | none => false
            | some i => if i = j then (if c.kids.isEmpty then true else accT xs c) else (if (t.kids.getD i default).2.kids.isEmpty then true else accT xs (t.kids.getD i default).2) := by
          intro c
          rw [accT_cons]
          have hk : (FT.mk (t.kids.set j (t.kids[j].1, c))).kids = t.kids.set j (t.kids[j].1, c) := rfl
          rw [hk, set_names _ _ hj]
          cases hu : ixN u (t.kids.map (·.1)) with
          | none => rfl
          | some i =>
            simp only []
            by_cases hij : i = j
            · subst hij
              rw [if_pos rfl, show (t.kids.set i (t.kids[i].1, c)).getD i default = (t.kids[i].1, c) by simp [List.getD, hj]]
            · rw [if_neg hij, show (t.kids.set j (t.kids[j].1, c)).getD i default = t.kids.getD i default by simp [List.getD, List.getElem?_set_ne (Ne.symm hij)]]
        have hold : accT (u :: xs) t = match ixN u (t.kids.map (·.1)) with
            | none => false
            | some i => if i = j then accT xs t.kids[j].2 else (if (t.kids.getD i default).2.kids.isEmpty then true else accT xs (t.kids.getD i default).2) := by
          rw [accT_cons]
          cases hu : ixN u (t.kids.map (·.1)) with
          | none => rfl
          | some i =>
            simp only []
            by_cases hij : i = j
            · subst hij
              rw [if_pos rfl, hg, if_neg hl]
            · rw [if_neg hij]
        by_cases he : fs.isEmpty = true
        · rw [if_pos he, key, hold]
          cases hu : ixN u (t.kids.map (·.1)) with
          | none => simp [hnone hu]
          | some i =>
            simp only []
            by_cases hij : i = j
            · subst hij
              rw [if_pos rfl, if_pos rfl]
              have : fs = [] := by simpa using he
              subst this
              simp [FT.kids, hsame hu, isPre]
            · rw [if_neg hij, if_neg hij]
              simp [hother i hu hij]
        · rw [if_neg he, key, hold]
          cases hu : ixN u (t.kids.map (·.1)) with
          | none => simp [hnone hu]
          | some i =>
            simp only []
            by_cases hij : i = j
            · subst hij
              rw [if_pos rfl, if_pos rfl, if_neg (by
                have := addT_kids_ne (f := fs) (t := t.kids[i].2) (.inl (by simpa using he))
                simpa using this), acc_add fs t.kids[i].2 xs hkj.2 hfs]
              have : preB fs xs = isPre fs xs := by simp [preB, he]
              rw [this, hsame hu]; simp
            · rw [if_neg hij, if_neg hij]
              simp [hother i hu hij]

theorem addAll_na : ∀ (l : List (List ByteArray)) (t : FT), NA t → (∀ f ∈ l, anyS ∉ f) → NA (addAll l t)
  | [], t, h, _ => h
  | f :: l, t, h, hl => by
    have := addAll_na l (addT f t) (addT_na f t h (hl f (by simp))) (fun g hg => hl g (List.mem_cons_of_mem _ hg))
    exact this
theorem acc_all : ∀ (l : List (List ByteArray)) (t : FT) (x : List ByteArray), NA t → (∀ f ∈ l, anyS ∉ f) → accT x (addAll l t) = (accT x t || l.any (preB · x))
  | [], t, x, _, _ => by simp [addAll]
  | f :: l, t, x, h, hl => by
    have h1 := acc_all l (addT f t) x (addT_na f t h (hl f (by simp))) (fun g hg => hl g (List.mem_cons_of_mem _ hg))
    have h2 := acc_add f t x h (hl f (by simp))
    show accT x (addAll l (addT f t)) = _
    rw [h1, h2, List.any_cons, Bool.or_assoc]
/-- The order of the filters does not matter. -/
theorem takesAll_perm {l m : List (List ByteArray)} (h : ∀ f ∈ l, anyS ∉ f) (p : m.Perm l) (x : List ByteArray) : takesAll m x = takesAll l x := by
  have hm : ∀ f ∈ m, anyS ∉ f := fun f hf => h f (p.mem_iff.1 hf)
  rw [takesAll, takesAll, acc_all l _ x NA.leaf h, acc_all m _ x NA.leaf hm]
  congr 1
  rw [Bool.eq_iff_iff, List.any_eq_true, List.any_eq_true]
  constructor
  · rintro ⟨f, hf, hp⟩; exact ⟨f, p.mem_iff.1 hf, hp⟩
  · rintro ⟨f, hf, hp⟩; exact ⟨f, p.mem_iff.2 hf, hp⟩
end Go.Proofs.Ytaniafohcaiedaa.Flt
