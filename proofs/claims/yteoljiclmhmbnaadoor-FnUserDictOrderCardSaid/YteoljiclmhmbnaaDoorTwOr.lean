/-
  The contents of a user dictionary stand in the order of its words: FnUserDictOrder returns true for every input that can be read.
  Conditions: none but those of the row.
-/
import Derived.Test.YteoljiclmhmbnaaDoorTwG
import Derived.RegionTactic
import Derived.BigRegion
import Derived.LaidMore
import Derived.MakeChecks
import Derived.Lib.LaidTab
import Derived.Test.YteoljiclmhmbnaaDoorTie
import Derived.Test.YteoljiclmhmbnaaDoorCards
import Derived.Lay
import Derived.SevenTiedAt
import Derived.Stop.Joined
import Derived.Handed
import Derived.WalkKit
import Derived.ProofKit
import Derived.OpenShut
import Derived.ShutString
import Derived.ChangeOld
import Derived.Below
import Derived.SizedLaws
set_option linter.unusedVariables false
set_option linter.unusedSimpArgs false
namespace Go.Proofs.YteoljiclmhmbnaaDoor.Tx
open Go.RowKit Go.Proofs.YteoljiclmhmbnaaDoor.K

variable {α : Type} [Inhabited α]
/-- The text at a place. -/
def ky (f : α → ByteArray) (M : List α) (p : Nat) : List UInt8 := (f (M.getD p default)).data.toList
/-- The first n are in order. -/
def AscN (f : α → ByteArray) (M : List α) (n : Nat) : Prop := ∀ p q, p < q → q < n → ¬ ky f M q < ky f M p
/-- The first ones up to i are in order, but for the one at k, which is on its way. -/
def AscB (f : α → ByteArray) (M : List α) (i k : Nat) : Prop := ∀ p q, p < q → q ≤ i → q ≠ k → ¬ ky f M q < ky f M p
/-- The records at k - 1 and k, exchanged. -/
def swp (M : List α) (k : Nat) : List α := (M.set k (M.getD (k - 1) default)).set (k - 1) (M.getD k default)
theorem swp_length (M : List α) (k : Nat) : (swp M k).length = M.length := by simp [swp]
theorem swp_getD (M : List α) {k : Nat} (h : 0 < k) (hk : k < M.length) (p : Nat) :
    (swp M k).getD p default = if p = k - 1 then M.getD k default else if p = k then M.getD (k - 1) default else M.getD p default := by
  unfold swp
  simp only [List.getD_eq_getElem?_getD, List.getElem?_set, List.length_set]
  by_cases e : p = k - 1
  · subst e
    rw [if_pos rfl, if_pos (by omega), if_pos rfl]; rfl
  · rw [if_neg (fun x => e x.symm), if_neg e]
    by_cases e2 : p = k
    · subst e2
      rw [if_pos rfl, if_pos hk, if_pos rfl]; rfl
    · rw [if_neg (fun x => e2 x.symm), if_neg e2]
theorem swp_perm (M : List α) {k : Nat} (h : 0 < k) (hk : k < M.length) : (swp M k).Perm M := by
  unfold swp
  rw [List.getD_eq_getElem?_getD, List.getD_eq_getElem?_getD, List.getElem?_eq_getElem hk, List.getElem?_eq_getElem (show k - 1 < M.length by omega)]
  exact List.set_set_perm (i := k) (j := k - 1) hk (by omega)
theorem ky_swp (f : α → ByteArray) (M : List α) {k : Nat} (h : 0 < k) (hk : k < M.length) (p : Nat) :
    ky f (swp M k) p = if p = k - 1 then ky f M k else if p = k then ky f M (k - 1) else ky f M p := by
  unfold ky
  rw [swp_getD M h hk]
  split
  · rfl
  · split <;> rfl
theorem ascB_start {f : α → ByteArray} {M : List α} {i : Nat} (h : AscN f M i) : AscB f M i i := fun p q h1 h2 h3 => h p q h1 (by omega)
theorem ascB_swp {f : α → ByteArray} {M : List α} {i k : Nat} (h : AscB f M i k) (h0 : 0 < k) (hk : k ≤ i) (hi : i < M.length) (hlt : ky f M k < ky f M (k - 1)) : AscB f (swp M k) i (k - 1) := by
  intro p q h1 h2 h3
  rw [ky_swp f M h0 (by omega), ky_swp f M h0 (by omega), if_neg h3]
  by_cases e : q = k
  · subst e
    rw [if_pos rfl]
    by_cases e2 : p = q - 1
    · rw [if_pos e2]; exact List.lt_asymm hlt
    · rw [if_neg e2, if_neg (by omega)]
      exact h p (q - 1) (by omega) (by omega) (by omega)
  · rw [if_neg e]
    split
    · rename_i e2
      exact h k q (by omega) h2 e
    · split
      · exact h (k - 1) q (by omega) h2 e
      · exact h p q h1 h2 e
theorem ascB_zero {f : α → ByteArray} {M : List α} {i : Nat} (h : AscB f M i 0) : AscN f M (i + 1) := fun p q h1 h2 => h p q h1 (by omega) (by omega)
theorem ascB_stop {f : α → ByteArray} {M : List α} {i k : Nat} (h : AscB f M i k) (h0 : 0 < k) (hk : k ≤ i) (hn : ¬ ky f M k < ky f M (k - 1)) : AscN f M (i + 1) := by
  intro p q h1 h2
  by_cases e : q = k
  · subst e
    by_cases e2 : p = q - 1
    · rw [e2]; exact hn
    · have := h p (q - 1) (by omega) (by omega) (by omega)
      rw [List.not_lt] at hn this ⊢
      exact List.le_trans this hn
  · exact h p q h1 (by omega) e
/-- What is in order, of the same records, with no two texts equal: the records in the order of their texts. -/
theorem sort_uniq {xs ys : List Rec} (hp : ys.Perm xs) (ha : AscN (·.1) ys ys.length) (hn : (xs.map (·.1)).Nodup) : ys = sortR xs := by
  have hs := sortR_perm xs
  refine List.Perm.eq_of_pairwise (le := fun a b => a.1.data.toList ≤ b.1.data.toList) ?_ ?_ ?_ (hp.trans hs.symm)
  · intro a b ma mb h1 h2
    have he : a.1 = b.1 := ba_ext (Array.toList_inj.1 (List.le_antisymm h1 h2))
    have ma := hp.mem_iff.1 ma
    have mb := hs.mem_iff.1 mb
    obtain ⟨i, hi, ei⟩ := List.mem_iff_getElem.1 ma
    obtain ⟨j, hj, ej⟩ := List.mem_iff_getElem.1 mb
    have hp' := List.pairwise_map.1 hn
    rw [List.pairwise_iff_getElem] at hp'
    have hij : i = j := by
      rcases Nat.lt_trichotomy i j with e | e | e
      · exact absurd (by rw [ei, ej, he]) (hp' i j hi hj e)
      · exact e
      · exact absurd (by rw [ei, ej, he]) (hp' j i hj hi e)
    subst hij
    rw [← ei, ← ej]
  · rw [List.pairwise_iff_getElem]
    intro i j hi hj hij
    have := ha i j hij hj
    unfold ky at this
    rw [List.getD_eq_getElem?_getD, List.getD_eq_getElem?_getD, List.getElem?_eq_getElem hi, List.getElem?_eq_getElem hj] at this
    exact List.not_lt.1 this
  · rw [List.pairwise_iff_getElem]
    intro i j hi hj hij
    exact List.not_lt.1 (sortR_asc xs i j hi hj hij)
theorem ascN_fst {γ : Type} [Inhabited γ] {g : γ → ByteArray} {M : List (Rec × γ)} (h : AscN (fun p => g p.2) M M.length) (hk : ∀ p ∈ M, p.1.1 = g p.2) : AscN (fun u : Rec => u.1) (M.map Prod.fst) (M.map Prod.fst).length := by
  intro p q h1 h2
  rw [List.length_map] at h2
  have := h p q h1 h2
  unfold ky at this ⊢
  have e : ∀ j (hj : j < M.length), ((M.map Prod.fst).getD j default).1 = g (M.getD j default).2 := fun j hj => by
    rw [List.getD_eq_getElem?_getD, List.getD_eq_getElem?_getD, List.getElem?_map, List.getElem?_eq_getElem hj]
    exact hk _ (List.getElem_mem hj)
  show ¬ ((M.map Prod.fst).getD q default).1.data.toList < ((M.map Prod.fst).getD p default).1.data.toList
  rw [e p (by omega), e q h2]
  exact this
theorem map_swp {β : Type} [Inhabited β] (f : α → β) (M : List α) {k : Nat} (h : 0 < k) (hk : k < M.length) : (swp M k).map f = ((M.map f).set k (f (M.getD (k - 1) default))).set (k - 1) (f (M.getD k default)) := by
  unfold swp
  rw [List.map_set, List.map_set]
end Go.Proofs.YteoljiclmhmbnaaDoor.Tx

set_option linter.unusedVariables false
set_option linter.unusedSimpArgs false
namespace Go.Proofs.YteoljiclmhmbnaaDoor.Tx
open Go.RowKit Go.Proofs.YteoljiclmhmbnaaDoor.K Go.Proofs.YteoljiclmhmbnaaDoorW.PrintWords

/-- The row that holds a list in its order of the day. -/
def ByRow {α : Type} (f : α → Ch) (g cap base : Nat) (w wr : World) (M : List α) : Prop :=
  kCh.R 31 wr base (fun _ => True) (.slice (some ⟨g, 0, none⟩) (M.map f).length cap) (M.map f) ∧ Below base w wr
def ByRet {α : Type} [Inhabited α] (f : α → Ch) (xs : List α) (w : World) (e : Ending) (w' : World) : Prop :=
  ∃ (M : List α) (v : Value), e = .returned v ∧ M.Perm xs ∧ AscN (fun a => (f a).1) M M.length ∧ kCh.R 31 w' w.heap.size (fun _ => True) v (M.map f) ∧ Below w.heap.size w w'

theorem byRow_drewN {α : Type} {f : α → Ch} {g cap base : Nat} {w wr : World} {M : List α} (h : ByRow f g cap base w wr M) (n : Nat) : ByRow f g cap base w (wr.drewN n) M :=
  ⟨Kd.R_below h.1 (pw_below_drewN (Below.refl _ _) n), pw_below_drewN h.2 n⟩
set_option maxHeartbeats 1000000 in
theorem byText_any {α : Type} [Inhabited α] (f : α → Ch) (A : Option Addr) (c : Nat) (xs : List α) (w : World) (hc : xs.length ≤ c) (hC : kCh.C w A xs.length (xs.map f)) (hb : xs.length * 160 ≤ 140737488355328) :
    Calls Tryd.prog 15 #[.slice A xs.length c] w (ByRet f xs w) := by
  have HC := Lib.hid hC
  clear hC
  go_enter Tryd.func15, Tryd.ntmps15
  go_wp2_with (at_builtin; refine Kd.R_append_rows kCh (Rr := kCh.K (w.alloc (.cells #[] 31))) (w0 := w) w.heap.size rfl _ _ 22 31 (.agg #[.string ⟨#[]⟩, .slice none 0 0, .slice none 0 0, .string ⟨#[]⟩]) 80 rfl Tryd.underlying22 (by kernel_rfl) rfl (by decide) (by decide) (.slice (some ⟨w.heap.size, 0, none⟩) 0 0) [] (xs.map f) A xs.length c (fun _ => True) (fun _ => False) rfl rfl (R_empty _ _ _ _ (Nat.le_refl _)) (Kd.C_alloc HC.out _) (fun _ _ h => h) (fun _ h => h.elim) (fun _ _ => trivial) ((Below.refl _ _).alloc (Nat.le_refl _) _) (by simp) (by simp; omega) ?_)
  intro v1 w1 hR1 hB1 hg1 hat1
  obtain ⟨A1, c1, hv1⟩ := Kd.R_slice hR1
  rw [List.length_map] at hv1
  subst hv1
  have HR1 := Lib.hid hR1
  have HB1 := Lib.hid hB1
  clear hR1 hB1 hg1 hat1
  rcases Nat.eq_zero_or_pos xs.length with h0 | h0
  · obtain rfl : xs = [] := List.length_eq_zero_iff.1 h0
    go_wp2_with fail
    go_loopw [3, 4, 10] (fun _ _ iv wr => iv = .int .i64 0 ∧ wr = w1) (fun _ _ _ _ => 0)
    case atStart => exact ⟨rfl, rfl⟩
    case round =>
      obtain ⟨rfl, rfl⟩ := hrel
      go_wp2_with fail
      go_ret
      exact ⟨[], _, rfl, List.Perm.refl _, fun p q _ h => by simp at h, HR1.out, HB1.out⟩
  obtain ⟨g, rfl⟩ : ∃ g, A1 = some ⟨g, 0, none⟩ := by
    rcases HR1.out.2.choose_spec.1.2 with ⟨_, h1⟩ | ⟨g, cap, cur, he, _⟩
    · exact absurd (by simpa using h1) (show ¬ xs = [] from fun e => by rw [e] at h0; simp at h0)
    · simp at he; exact ⟨g, he.1⟩
  go_wp2_with fail
  go_loopw [3, 4, 10] (fun _ _ iv wr => ∃ (i : Nat) (M : List α), i ≤ xs.length ∧ iv = .int .i64 i ∧ M.length = xs.length ∧ Hid (M.Perm xs) ∧ Hid (AscN (fun a => (f a).1) M i) ∧ Hid (ByRow f g c1 w.heap.size w wr M)) (fun _ _ iv _ => xs.length - (intOf iv).toNat)
  case atStart => exact ⟨0, xs, Nat.zero_le _, rfl, rfl, Lib.hid (List.Perm.refl _), Lib.hid (fun p q _ h => by omega), Lib.hid ⟨by rw [List.length_map]; exact HR1.out, HB1.out⟩⟩
  case round =>
    obtain ⟨i, M, hi, rfl, hM, HP, HA, HR⟩ := hrel
    by_cases hlt : i < xs.length
    · go_wp2_with fail
      go_loopw [4] (fun kv wr => ∃ (k : Nat) (M : List α), k ≤ i ∧ kv = .int .i64 k ∧ M.length = xs.length ∧ Hid (M.Perm xs) ∧ Hid (AscB (fun a => (f a).1) M i k) ∧ Hid (ByRow f g c1 w.heap.size w wr M)) (fun kv _ => (intOf kv).toNat)
      case atStart => exact ⟨i, M, Nat.le_refl _, rfl, hM, HP, Lib.hid (ascB_start HA.out), HR⟩
      case round =>
        clear HP HA HR hM M
        obtain ⟨k, M, hk, rfl, hM, HP, HA, HR⟩ := hrel
        rcases Nat.eq_zero_or_pos k with hz | hz
        · subst hz
          go_wp2_with fail
          go_quiet (fail)
          go_wp2_with fail
          exact ⟨⟨i + 1, M, by omega, by go_num, hM, HP, Lib.hid (ascB_zero HA.out), Lib.hid (byRow_drewN HR.out _)⟩, by simp [intOf]; omega⟩
        obtain ⟨j, hj⟩ : ∃ j, k = j + 1 := ⟨k - 1, by omega⟩
        subst hj
        obtain ⟨hg, _, hcells, hfz⟩ := row_cellsC HR.out.1
        obtain ⟨hci, hci1, hci2, hci3⟩ := hcells (j + 1) (by rw [List.length_map]; omega)
        obtain ⟨hcj, hcj1, hcj2, hcj3⟩ := hcells j (by rw [List.length_map]; omega)
        have ei : (M.map f)[j + 1]'(by rw [List.length_map]; omega) = f (M.getD (j + 1) default) := by
          rw [List.getElem_map, List.getD_eq_getElem?_getD, List.getElem?_eq_getElem (show j + 1 < M.length by omega)]; rfl
        have ej : (M.map f)[j]'(by rw [List.length_map]; omega) = f (M.getD j default) := by
          rw [List.getElem_map, List.getD_eq_getElem?_getD, List.getElem?_eq_getElem (show j < M.length by omega)]; rfl
        rw [ei] at hci hci1 hci2 hci3
        rw [ej] at hcj hcj1 hcj2 hcj3
        have hfi := hfz ((j + 1) * 4)
        have hfj := hfz (j * 4)
        have hfi1 := hfz ((j + 1) * 4 + 1)
        have hfj1 := hfz (j * 4 + 1)
        have hfi2 := hfz ((j + 1) * 4 + 2)
        have hfj2 := hfz (j * 4 + 2)
        have hfi3 := hfz ((j + 1) * 4 + 3)
        have hfj3 := hfz (j * 4 + 3)
        unfold slV at hci1 hci2 hcj1 hcj2
        obtain ⟨X, hX⟩ : ∃ X, X = f (M.getD (j + 1) default) := ⟨_, rfl⟩
        obtain ⟨Y, hY⟩ : ∃ Y, Y = f (M.getD j default) := ⟨_, rfl⟩
        rw [← hX] at hci hci1 hci2 hci3
        rw [← hY] at hcj hcj1 hcj2 hcj3
        have HX := Lib.hid hX
        have HY := Lib.hid hY
        obtain ⟨x0, x1, x2, x3⟩ := X
        obtain ⟨y0, y1, y2, y3⟩ := Y
        dsimp only at hci hci1 hci2 hci3 hcj hcj1 hcj2 hcj3
        clear hX hY ei ej hcells hfz
        have pj : (((j + 1 : Nat) : Int)) - 1 = (j : Int) := by omega
        have pk : (0 : Int) < ((j + 1 : Nat) : Int) := by omega
        have p0 : (0 : Int) ≤ j := by omega
        have p1 : (0 : Int) ≤ ((j + 1 : Nat) : Int) := by omega
        have p2 : ((j + 1 : Nat) : Int) < (xs.length : Int) := by omega
        have p3 : (j : Int) < (xs.length : Int) := by omega
        obtain ⟨B, hB⟩ : ∃ B : Bool, Op.bytesLess x0.toList y0.toList = B := ⟨_, rfl⟩
        have hkx : ky (fun a => (f a).1) M (j + 1) = x0.data.toList := by
          show (f (M.getD (j + 1) default)).1.data.toList = _
          rw [← HX.out]
        have hky : ky (fun a => (f a).1) M j = y0.data.toList := by
          show (f (M.getD j default)).1.data.toList = _
          rw [← HY.out]
        have hBk : decide (ky (fun a => (f a).1) M (j + 1) < ky (fun a => (f a).1) M j) = B := by
          rw [hkx, hky, ← hB, bytesLess_eq, ByteArray.toList_eq, ByteArray.toList_eq]
        have HBK := Lib.hid hBk
        clear hBk hkx hky
        cases B
        · go_wp2_with fail
          go_quiet (fail)
          go_wp2_with fail
          exact ⟨⟨i + 1, M, by omega, by go_num, hM, HP, Lib.hid (ascB_stop HA.out (by omega) hk (of_decide_eq_false HBK.out)), Lib.hid (byRow_drewN HR.out _)⟩, by simp [intOf]; omega⟩
        · go_wp2_with fail
          go_quiet (fail)
          have HR' : Hid (ByRow f g c1 w.heap.size w (wr.drewN nq) M) := Lib.hid (byRow_drewN HR.out nq)
          clear hB HR
          replace hci : (wr.drewN nq).cell? _ = _ := hci
          replace hci1 : (wr.drewN nq).cell? _ = _ := hci1
          replace hci2 : (wr.drewN nq).cell? _ = _ := hci2
          replace hci3 : (wr.drewN nq).cell? _ = _ := hci3
          replace hcj : (wr.drewN nq).cell? _ = _ := hcj
          replace hcj1 : (wr.drewN nq).cell? _ = _ := hcj1
          replace hcj2 : (wr.drewN nq).cell? _ = _ := hcj2
          replace hcj3 : (wr.drewN nq).cell? _ = _ := hcj3
          replace hfi : (wr.drewN nq).frozen? _ = _ := hfi
          replace hfi1 : (wr.drewN nq).frozen? _ = _ := hfi1
          replace hfi2 : (wr.drewN nq).frozen? _ = _ := hfi2
          replace hfi3 : (wr.drewN nq).frozen? _ = _ := hfi3
          replace hfj : (wr.drewN nq).frozen? _ = _ := hfj
          replace hfj1 : (wr.drewN nq).frozen? _ = _ := hfj1
          replace hfj2 : (wr.drewN nq).frozen? _ = _ := hfj2
          replace hfj3 : (wr.drewN nq).frozen? _ = _ := hfj3
          generalize wr.drewN nq = wd at *
          go_wp2_with fail
          go_region
          go_wp2_with fail
          have h1 := R_setC HR'.out.1 (j + 1) (by rw [List.length_map]; omega) (y0, y1, y2, y3)
          have h2 := R_setC h1 j (by rw [List.length_set, List.length_map]; omega) (x0, x1, x2, x3)
          have e := map_swp f M (k := j + 1) (by omega) (by omega)
          change _ = ((M.map f).set (j + 1) (f (M.getD j default))).set j (f (M.getD (j + 1) default)) at e
          rw [← HX.out, ← HY.out] at e
          refine ⟨⟨j, swp M (j + 1), by omega, rfl, by rw [swp_length]; exact hM, Lib.hid ((swp_perm M (by omega) (by omega)).trans HP.out), Lib.hid (ascB_swp HA.out (by omega) hk (by omega) (of_decide_eq_true HBK.out)), Lib.hid ⟨?_, below_drew ((((((((HR'.out.2.setCell hg _).setCell hg _).setCell hg _).setCell hg _).setCell hg _).setCell hg _).setCell hg _).setCell hg _)⟩⟩, by simp [intOf]⟩
          rw [e, List.length_set, List.length_set]
          exact Kd.R_below h2 (below_drew (Below.refl _ _))
    · go_wp2_with fail
      go_ret
      obtain rfl : i = xs.length := by omega
      rw [← hM] at HA
      have h := HR.out.1
      rw [List.length_map, hM] at h
      exact ⟨M, _, rfl, HP.out, HA.out, h, HR.out.2⟩
end Go.Proofs.YteoljiclmhmbnaaDoor.Tx

set_option linter.unusedVariables false
set_option linter.unusedSimpArgs false
namespace Go.Proofs.YteoljiclmhmbnaaDoor.Tx
open Go.RowKit Go.Proofs.YteoljiclmhmbnaaDoor.K Go.Proofs.YteoljiclmhmbnaaDoorW.PrintWords

set_option maxHeartbeats 2000000 in
set_option maxRecDepth 5000 in
theorem sameRecord_un (u v : Rec) (huv : u.2 = v.2) (A1 A2 B1 B2 : Option Addr) (c1 c2 d1 d2 : Nat) (w : World) (h1 : Kd.string.C w A1 u.2.1.length u.2.1) (h2 : Kd.string.C w A2 u.2.2.1.length u.2.2.1) (g1 : Kd.string.C w B1 v.2.1.length v.2.1) (g2 : Kd.string.C w B2 v.2.2.1.length v.2.2.1) :
    Calls Tryd.prog 42 #[recV u A1 A2 c1 c2, recV v B1 B2 d1 d2, .bool false] w fun e w' => e = .returned (.bool true) ∧ Below w.heap.size w w' := by
  obtain ⟨a, xs, ys, d⟩ := u
  obtain ⟨b, v2⟩ := v
  dsimp only at huv
  subst huv
  have H1 := Lib.hid h1
  have H2 := Lib.hid h2
  have G1 := Lib.hid g1
  have G2 := Lib.hid g2
  clear h1 h2 g1 g2
  have hqd : (d.toList == d.toList) = true := by simp
  have HS1 := Lib.hid (fun W (hC : Kd.string.C W A1 xs.length xs) (hD : Kd.string.C W B1 xs.length xs) => sameStr_true A1 B1 c1 d1 xs W hC hD)
  have HS2 := Lib.hid (fun W (hC : Kd.string.C W A2 ys.length ys) (hD : Kd.string.C W B2 ys.length ys) => sameStr_true A2 B2 c2 d2 ys W hC hD)
  unfold recV
  show Calls _ _ #[.agg #[.string a, .slice A1 xs.length c1, .slice A2 ys.length c2, .string d], .agg #[.string b, .slice B1 xs.length d1, .slice B2 ys.length d2, .string d], .bool false] _ _
  go_enter Tryd.func42, Tryd.ntmps42
  go_wp2_with fail
  obtain ⟨o1, ho1⟩ : ∃ o, o = Obj.cells #[.string a, .slice A1 xs.length c1, .slice A2 ys.length c2, .string d] 31 := ⟨_, rfl⟩
  obtain ⟨o2, ho2⟩ : ∃ o, o = Obj.cells #[.string b, .slice B1 xs.length d1, .slice B2 ys.length d2, .string d] 31 := ⟨_, rfl⟩
  rw [← ho1, ← ho2]
  refine (HS1.out _ (Kd.C_alloc (Kd.C_alloc H1.out _) _) (Kd.C_alloc (Kd.C_alloc G1.out _) _)).mono ?_
  rintro e w1 ⟨rfl, hb1⟩
  have c2' : w1.cell? ⟨w.heap.size, 2, none⟩ = some (.slice A2 ys.length c2) := (hb1.cell (p := ⟨w.heap.size, 2, none⟩) (by simp; omega)).trans (by rw [ho1, box0]; rfl)
  have c3' : w1.cell? ⟨w.heap.size, 3, none⟩ = some (.string d) := (hb1.cell (p := ⟨w.heap.size, 3, none⟩) (by simp; omega)).trans (by rw [ho1, box0]; rfl)
  have e2' : w1.cell? ⟨w.heap.size + 1, 2, none⟩ = some (.slice B2 ys.length d2) := (hb1.cell (p := ⟨w.heap.size + 1, 2, none⟩) (by simp)).trans (by rw [ho2, box1]; rfl)
  have e3' : w1.cell? ⟨w.heap.size + 1, 3, none⟩ = some (.string d) := (hb1.cell (p := ⟨w.heap.size + 1, 3, none⟩) (by simp)).trans (by rw [ho2, box1]; rfl)
  have HB1 := Lib.hid ((((Below.refl _ w).alloc (Nat.le_refl _) o1).alloc (by simp) o2).trans (hb1.mono (by simp; omega)))
  have hsz1 := HB1.out.size
  clear hb1 ho1 ho2
  go_wp2_with fail
  refine (HS2.out _ (Kd.C_below H2.out HB1.out) (Kd.C_below G2.out HB1.out)).mono ?_
  rintro e w2 ⟨rfl, hb2⟩
  replace c3' := (hb2.cell (World.block_lt_of_cell? _ _ c3')).trans c3'
  replace e3' := (hb2.cell (World.block_lt_of_cell? _ _ e3')).trans e3'
  have HB2 := Lib.hid (HB1.out.trans (hb2.mono hsz1))
  clear hb2 c2' e2'
  go_wp2
  go_ret
  exact ⟨by simp, HB2.out⟩

set_option maxHeartbeats 2000000 in
set_option maxRecDepth 5000 in
theorem sameRecords_un (A B : Option Addr) (c c' : Nat) (xs ys : List Rec) (hxy : xs.map unT = ys.map unT) (w : World) (hC : kRec.C w A xs.length xs) (hD : kRec.C w B xs.length ys) :
    Calls Tryd.prog 14 #[.slice A xs.length c, .slice B xs.length c', .bool false] w fun e w' => e = .returned (.bool true) ∧ Below w.heap.size w w' := by
  have hm := hC.2.1
  have hl : ys.length = xs.length := by have := congrArg List.length hxy; simpa using this.symm
  have HU : Hid (∀ k (h1 : k < xs.length) (h2 : k < ys.length), xs[k].2 = ys[k].2) := Lib.hid (fun k h1 h2 => by
    have e := congrArg (fun t => t[k]?) hxy
    simp only [List.getElem?_map, List.getElem?_eq_getElem h1, List.getElem?_eq_getElem h2, Option.map_some] at e
    exact congrArg (fun t => t.2) (Option.some.inj e))
  clear hxy
  have HC := Lib.hid hC
  have HD := Lib.hid hD
  clear hC hD
  go_enter Tryd.func14, Tryd.ntmps14
  go_wp2
  go_loopw [15] (fun i wr => ∃ k : Nat, k ≤ xs.length ∧ i = .int .i64 k ∧ Hid (Below w.heap.size w wr)) (fun i _ => xs.length - (intOf i).toNat)
  case atStart => exact ⟨0, Nat.zero_le _, rfl, Lib.hid (Below.refl _ _)⟩
  case round =>
    obtain ⟨k, hk, rfl, hbel⟩ := hrel
    by_cases hlt : k < xs.length
    · obtain ⟨ad, A1, a1, A2, a2, rfl, s0, s1, s2, s3, g1, _, g2, _⟩ := recs_at (Kd.C_below HC.out hbel.out) k hlt
      obtain ⟨bd, B1, b1, B2, b2, rfl, t0, t1, t2, t3, k1, _, k2, _⟩ := recs_at (Kd.C_below HD.out hbel.out) k (by omega)
      have HE := Lib.hid (fun W (h1 : Kd.string.C W A1 xs[k].2.1.length xs[k].2.1) (h2 : Kd.string.C W A2 xs[k].2.2.1.length xs[k].2.2.1) (h3 : Kd.string.C W B1 (ys[k]'(by omega)).2.1.length (ys[k]'(by omega)).2.1) (h4 : Kd.string.C W B2 (ys[k]'(by omega)).2.2.1.length (ys[k]'(by omega)).2.2.1) => sameRecord_un xs[k] (ys[k]'(by omega)) (HU.out k hlt (by omega)) A1 A2 B1 B2 a1 a2 b1 b2 W h1 h2 h3 h4)
      have G1 := Lib.hid g1
      have G2 := Lib.hid g2
      have K1 := Lib.hid k1
      have K2 := Lib.hid k2
      clear g1 g2 k1 k2
      have p0 : (0 : Int) ≤ k := by omega
      have p1 : (k : Int) < (xs.length : Int) := by omega
      have hszr := hbel.out.size
      unfold recV at HE
      have HUK := Lib.hid (HU.out k hlt (by omega))
      have hlk : k < ys.length := by omega
      change Hid (xs[k].2 = ys[k].2) at HUK
      generalize xs[k] = u at *
      generalize ys[k] = v at *
      obtain ⟨a, ps, zs, d⟩ := u
      obtain ⟨a', v2⟩ := v
      obtain rfl : (ps, zs, d) = v2 := HUK.out
      clear HUK HU
      go_wp2
      go_region_with (go_at_call 42; refine (HE.out _ ?_ ?_ ?_ ?_).mono ?_; exact G1.out; exact G2.out; exact K1.out; exact K2.out; rintro e w2 ⟨rfl, hw2⟩; have HW2 := Lib.hid hw2; clear hw2)
      all_goals
        go_wp2
        exact ⟨⟨k + 1, by omega, by go_num, Lib.hid (hbel.out.trans ((show Below wr.heap.size wr w2 from (pw_below_drewN (Below.refl _ wr) 1).trans HW2.out).mono hszr))⟩, by simp [intOf]; omega⟩
    · go_wp2
      go_ret
      exact ⟨rfl, hbel.out⟩
end Go.Proofs.YteoljiclmhmbnaaDoor.Tx

set_option linter.unusedVariables false
set_option linter.unusedSimpArgs false
namespace Go.Proofs.YteoljiclmhmbnaaDoor.Tx
open Go.RowKit Go.Proofs.YteoljiclmhmbnaaDoor.K Go.Proofs.YteoljiclmhmbnaaDoorW.PrintWords

theorem key_eq {w : World} {u : Rec} {x : Ch} (h : kRec.K w u (encC x)) : u.1 = x.1 := by
  obtain ⟨c1, c2, e, h1, _⟩ := h
  have h1' : c1 = [.string u.1] := h1
  rw [h1'] at e
  unfold encC at e
  rw [List.singleton_append] at e
  exact (Value.string.inj (List.cons.inj e).1).symm
theorem dup_not {S : List Rec} (h : (S.map (·.1)).Nodup) {k : Nat} (h0 : 0 < k) (hk : k < S.length) : prevT S k ≠ (S.getD k default).1 := by
  have h := List.pairwise_map.1 h
  rw [List.pairwise_iff_getElem] at h
  have := h (k - 1) k (by omega) hk (by omega)
  unfold prevT
  rw [if_neg (by omega), List.getD_eq_getElem?_getD, List.getD_eq_getElem?_getD, List.getElem?_eq_getElem hk, List.getElem?_eq_getElem (show k - 1 < S.length by omega)]
  exact this
theorem sort_same {xs L : List Rec} (hL : L.Perm xs) (hn : (xs.map (·.1)).Nodup) : sortR L = sortR xs := by
  refine sort_uniq ((sortR_perm L).trans hL) (fun p q h1 h2 => ?_) hn
  have := sortR_asc L p q (by omega) h2 h1
  unfold ky
  rw [List.getD_eq_getElem?_getD, List.getD_eq_getElem?_getD, List.getElem?_eq_getElem h2, List.getElem?_eq_getElem (show p < (sortR L).length by omega)]
  exact this
theorem okUD_perm {xs L : List Rec} (h : RightR xs) (hL : L.Perm xs) : OkUD L where
  pos := by rw [hL.length_eq]; exact h.pos
  len := by rw [hL.length_eq]; have := rr_len h; omega
  pl v hv := by
    have hv' := hL.mem_iff.1 hv
    have hk := h.ok v hv'
    exact ⟨hk.1, rr_size h v hv', hk.2.1, hk.2.2.1⟩
  sm v hv := (h.ok v (hL.mem_iff.1 hv)).2.2.2
  sum _ := by
    have e : Da.sumL (L.map (·.1)) = Da.sumL (xs.map (·.1)) := sumL_perm (hL.map (·.1))
    rw [e]
    exact h.sum
theorem order_ud (A : Option Addr) (c N : Nat) (xs L : List Rec) (w : World) (hN : L.length = N) (hC : kRec.C w A N L) (h : RightR xs) (hL : L.Perm xs) (hsp : tabSp w) :
    Calls Tryd.prog 12 #[.slice A N c, .slice none 0 0] w fun e w' => ∃ (A' : Option Addr) (c' : Nat) (va : Value), e = .returned (.tuple #[.slice A' N c', va, .int .i64 0]) ∧ kRec.C w' A' N ((sortR xs).map unT) ∧ Below w.heap.size w w' := by
  subst hN
  have hs := sort_same hL h.nd
  have hl : (sortR xs).length = L.length := by rw [sortR_length, hL.length_eq]
  refine Calls.mono (userDict_any A c L none 0 [] w hC (okUD_perm h hL) hsp (strs_nil w) (fun s hs => by simp at hs) (by simp)) ?_
  rw [hs]
  rintro e w' (⟨k, h0, hk, he, _⟩ | ⟨A', c', va, hdis, rfl, _, hC', _, hb⟩)
  · exact absurd he (dup_not (((sortR_perm xs).map (·.1)).nodup_iff.2 h.nd) h0 hk)
  · rw [hl] at hC' ⊢
    exact ⟨A', c', va, rfl, hC', hb⟩
theorem by_n (A : Option Addr) (c N : Nat) (xs : List Rec) (ps : List (Rec × Ch)) (hps : ps.map (·.1) = xs) (w : World) (hN : xs.length = N) (hc : N ≤ c) (hC : kCh.C w A N (ps.map (·.2))) (hk : ∀ p ∈ ps, kRec.K w p.1 (encC p.2)) (hn : (xs.map (·.1)).Nodup) (hb : N * 160 ≤ 140737488355328) :
    Calls Tryd.prog 15 #[.slice A N c] w fun e w' => ∃ (A' : Option Addr) (c' : Nat), e = .returned (.slice A' N c') ∧ kRec.C w' A' N (sortR xs) ∧ Below w.heap.size w w' := by
  have hl : ps.length = N := by rw [← hN, ← hps]; simp
  subst hl
  refine Calls.mono (byText_any (fun p : Rec × Ch => p.2) A c ps w hc hC hb) ?_
  rintro e w' ⟨M, v, rfl, hP, hA, hR, hB⟩
  have hkM : ∀ p ∈ M, kRec.K w p.1 (encC p.2) := fun p hp => hk p (hP.mem_iff.1 hp)
  obtain ⟨A', c', rfl, _, hC'⟩ := of_pairs hR (fun p hp => kRec.K_below hB (hkM p hp))
  have hM : M.map (·.1) = sortR xs := by
    refine sort_uniq (by rw [← hps]; exact hP.map _) ?_ hn
    exact ascN_fst (g := fun x : Ch => x.1) hA (fun p hp => key_eq (hkM p hp))
  rw [hM, hP.length_eq] at hC'
  rw [hP.length_eq]
  exact ⟨A', c', rfl, hC', hB⟩
theorem same_n (A B : Option Addr) (c c' N : Nat) (xs ys : List Rec) (hN : xs.length = N) (hxy : xs.map unT = ys.map unT) (w : World) (hC : kRec.C w A N xs) (hD : kRec.C w B N ys) :
    Calls Tryd.prog 14 #[.slice A N c, .slice B N c', .bool false] w fun e w' => e = .returned (.bool true) ∧ Below w.heap.size w w' := by
  subst hN
  exact sameRecords_un A B c c' xs ys hxy w hC hD
theorem unT_un (S : List Rec) : (S.map unT).map unT = S.map unT := by rw [List.map_map]; rfl

set_option maxHeartbeats 8000000 in
set_option maxRecDepth 5000 in
theorem order_walk (A : Option Addr) (c : Nat) (xs : List Rec) (n : Nat) (hn : n < 256) (w : World) (hC : kRec.C w A xs.length xs) (hc : xs.length ≤ c) (hsp : tabSp w) :
    Calls Tryd.prog 3 #[.slice A xs.length c, .int .u8 n] w (RetTr w) := by
  have hm := hC.2.1
  have HC := Lib.hid hC
  have HSP := Lib.hid hsp
  have HOW := Lib.hid (fun (W : World) (h : Below w.heap.size w W) => (owns_any W (tabSp_below hsp h)).mono (R' := RetTr w) (fun e w' he => ⟨he.1, h.trans (he.2.mono h.size)⟩))
  clear hC hsp
  go_enter Tryd.func3, Tryd.ntmps3
  go_wp2_with fail
  refine (zzFits14_any A c xs w HC.out).mono ?_
  rintro e w1 ⟨b1, rfl, hb1, hl1⟩
  have HB1 := Lib.hid hb1
  have HL1 := Lib.hid hl1
  have hz1 := hl1.size
  clear hb1 hl1
  cases b1
  · go_wp2
    go_ret
    exact ⟨by simp, HL1.out⟩
  go_wp2_with fail
  refine (right_any A c xs w1 (Kd.C_below HC.out HL1.out) (HB1.out (by first | trivial | rfl))).mono ?_
  rintro e w2 ⟨b2, rfl, hb2, hl2⟩
  have HB2 := Lib.hid hb2
  have HL2 := Lib.hid (HL1.out.trans (hl2.mono hz1))
  have hz2 := HL2.out.size
  clear hb2 hl2 HB1 HL1 hz1
  cases b2
  · go_wp2_with fail
    refine (HOW.out w2 HL2.out).mono ?_
    rintro e w3 ⟨rfl, hl3⟩
    have HL3 := Lib.hid hl3
    clear hl3
    go_wp2
    go_ret
    exact ⟨by simp, HL3.out⟩
  have hrr := HB2.out (by first | trivial | rfl)
  have hlen := rr_len hrr
  have HRR := Lib.hid hrr
  clear hrr HB2
  obtain ⟨ps, hps1, hps2, hps3⟩ := to_pairs HC.out
  have HP1 := Lib.hid hps1
  have HP2 := Lib.hid hps2
  have HP3 := Lib.hid hps3
  have HPL := Lib.hid (show ps.length = xs.length by rw [← hps1]; simp)
  have HSL := Lib.hid (show ((sortR xs).map unT).length = xs.length by rw [List.length_map, sortR_length])
  clear hps1 hps2 hps3
  go_wp2_with fail
  refine (order_ud A c xs.length xs xs w2 rfl (Kd.C_below HC.out HL2.out) HRR.out (List.Perm.refl _) (tabSp_below HSP.out HL2.out)).mono ?_
  rintro e w3 ⟨Aa, ca, va, rfl, hCa, hB3⟩
  have HCa := Lib.hid hCa
  have HL3 := Lib.hid (HL2.out.trans (hB3.mono hz2))
  have hz3 := HL3.out.size
  clear hCa hB3 HL2 hz2
  go_wp2_with fail
  refine (turn_n A c xs.length (ps.map (·.2)) n hn w3 (by rw [List.length_map]; exact HPL.out) hc (Kd.C_below HP2.out HL3.out) (by omega)).mono ?_
  rintro e w4 ⟨v4, rfl, hR4, hB4⟩
  rw [turnL_map] at hR4
  have HL4 := Lib.hid (HL3.out.trans (hB4.mono hz3))
  have hz4 := HL4.out.size
  have hTL : (turnL ps n).length = xs.length := by rw [(turnL_perm ps n).length_eq]; exact HPL.out
  obtain ⟨A4, c4, rfl, hl4, hC4⟩ := of_pairs hR4 (fun p hp => kRec.K_below HL4.out (HP3.out p ((turnL_perm ps n).mem_iff.1 hp)))
  rw [hTL] at hC4 ⊢
  have HPm := Lib.hid (show ((turnL ps n).map (·.1)).Perm xs by have := (turnL_perm ps n).map (·.1); rw [HP1.out] at this; exact this)
  have HLm := Lib.hid (show ((turnL ps n).map (·.1)).length = xs.length by rw [List.length_map]; exact hTL)
  have HC4 := Lib.hid hC4
  have HCa4 := Lib.hid (Kd.C_below HCa.out hB4)
  clear hR4 hB4 hC4 hl4 hTL HL3 HCa
  generalize (turnL ps n).map (·.1) = L at HPm HLm HC4
  go_wp2_with fail
  refine (order_ud A4 c4 xs.length xs L w4 HLm.out HC4.out HRR.out HPm.out (tabSp_below HSP.out HL4.out)).mono ?_
  rintro e w5 ⟨Ab, cb, vb, rfl, hCb, hB5⟩
  have HCb := Lib.hid hCb
  have HCa5 := Lib.hid (Kd.C_below HCa4.out hB5)
  have HL5 := Lib.hid (HL4.out.trans (hB5.mono hz4))
  have hz5 := HL5.out.size
  clear hCb hB5 HL4 hz4 HC4 HCa4
  go_wp2_with fail
  refine (by_n A c xs.length xs ps HP1.out w5 rfl hc (Kd.C_below HP2.out HL5.out) (fun p hp => kRec.K_below HL5.out (HP3.out p hp)) HRR.out.nd (by omega)).mono ?_
  rintro e w6 ⟨Ac, cc, rfl, hCc, hB6⟩
  have HCc := Lib.hid hCc
  have HCa6 := Lib.hid (Kd.C_below HCa5.out hB6)
  have HCb6 := Lib.hid (Kd.C_below HCb.out hB6)
  have HL6 := Lib.hid (HL5.out.trans (hB6.mono hz5))
  have hz6 := HL6.out.size
  clear hCc hB6 HL5 hz5 HCa5 HCb
  go_wp2_with fail
  refine (same_n Aa Ac ca cc xs.length ((sortR xs).map unT) (sortR xs) HSL.out (unT_un _) w6 HCa6.out HCc.out).mono ?_
  rintro e w7 ⟨rfl, hB7⟩
  have HCa7 := Lib.hid (Kd.C_below HCa6.out hB7)
  have HCb7 := Lib.hid (Kd.C_below HCb6.out hB7)
  have HL7 := Lib.hid (HL6.out.trans (hB7.mono hz6))
  have hz7 := HL7.out.size
  clear hB7 HL6 hz6 HCa6 HCb6
  go_wp2_with fail
  refine (same_n Aa Ab ca cb xs.length ((sortR xs).map unT) ((sortR xs).map unT) HSL.out rfl w7 HCa7.out HCb7.out).mono ?_
  rintro e w8 ⟨rfl, hB8⟩
  have HL8 := Lib.hid (HL7.out.trans (hB8.mono hz7))
  clear hB8 HL7 hz7
  go_wp2_with fail
  refine (HOW.out w8 HL8.out).mono ?_
  rintro e w9 ⟨rfl, hl9⟩
  have HL9 := Lib.hid hl9
  clear hl9
  go_wp2
  go_ret
  exact ⟨by simp, HL9.out⟩
end Go.Proofs.YteoljiclmhmbnaaDoor.Tx

set_option linter.unusedVariables false
set_option linter.unusedSimpArgs false
namespace Go.Proofs.YteoljiclmhmbnaaDoor.Tx
open Go.RowKit Go.Proofs.YteoljiclmhmbnaaDoor.K Go.Proofs.YteoljiclmhmbnaaDoorW.PrintWords

set_option maxRecDepth 100000 in
theorem sp_order {W : World} (h : laidMetH Tryd.prog Rows.fnUserDictOrderRow.laid W) : tabSp W := by
  rw [MakeChecks.laidMetH_plain _ _ _ (by kernel_rfl)] at h
  obtain ⟨ps, ⟨g0, t0, cs0, f0, p0, q0, hg0, ht0, hv0, hd0, ⟨g1, t1, cs1, f1, p1, q1, hg1, ht1, hv1, hd1, hr2, e1⟩, e0⟩, hn, hm⟩ := h
  obtain ⟨g2, t2, cs2, f2, p2, q2, hg2, ht2, hv2, hd2, hr3, e2⟩ := hr2
  obtain rfl := Option.some.inj ((show Tryd.prog.globalNamed "strings.asciiSpace" = some 0 by kernel_rfl).symm.trans hg2)
  obtain rfl := Option.some.inj ((show (Tryd.prog.globals[0]?).map (·.type) = some 182 by kernel_rfl).symm.trans ht2)
  unfold tabSp Lib.TabIs
  rw [hv2, ← Lib.cells_of_tab (e := 5) (zs := Lib.asciiSpaceTab) Tryd.underlying182 Tryd.underlying5 (by kernel_rfl) (by kernel_rfl) hd2]
theorem order_int (A : Option Addr) (c : Nat) (xs : List Rec) (n : Int) (hn : (Lit.int .u8 n).wf = true) (w : World) (hC : kRec.C w A xs.length xs) (hc : xs.length ≤ c) (hsp : tabSp w) :
    Calls Tryd.prog 3 #[.slice A xs.length c, .int .u8 n] w (RetTr w) := by
  have h : 0 ≤ n ∧ n ≤ 255 := by simpa [Lit.wf, IntKind.min, IntKind.max, IntKind.signed, IntKind.bits] using hn
  obtain ⟨k, rfl⟩ : ∃ k : Nat, n = (k : Int) := ⟨n.toNat, by omega⟩
  exact order_walk A c xs k (by omega) w hC hc hsp
end Go.Proofs.YteoljiclmhmbnaaDoor.Tx

set_option linter.unusedVariables false
set_option linter.unusedSimpArgs false
namespace Go.Proofs.YteoljiclmhmbnaaDoor
open Go.ChangeShapes Go.WideShapes Go.ChangeAt Go.RowKit
open Go.ChangeMaps (open_string shut_string)
open Go.Proofs.YteoljiclmhmbnaaDoor.K Go.Proofs.YteoljiclmhmbnaaDoorW.PrintWords

namespace FnUserDictOrder
theorem own : ownKnob Tryd.prog.godebug = none := by kernel_rfl
theorem laidOut : laidOutB Tryd.prog = true := by kernel_rfl
set_option maxRecDepth 100000 in
theorem lifted (os : Os) (started : os.Started) (H : Type) (enc : TypeId × Value → H) :
    ReturnsInHanded {} Tryd.checked os 3 .any (fun w args => (Rows.fnUserDictOrderSpec.pre enc Tryd.prog Tryd.f3 Rows.fnUserDictOrderRow.domain false w args ∧ laidMetH Tryd.prog Rows.fnUserDictOrderRow.laid w) ∧ sizedMet enc Tryd.prog Tryd.f3 (OpenSpec.ofChange Rows.fnUserDictOrderSpec) false w args) (Rows.fnUserDictOrderSpec.post enc Tryd.prog Tryd.f3 false true false false) := by
  refine returnsInHanded_of_change_and (C := Tryd.checked) (X := fun w _ => laidMetH Tryd.prog Rows.fnUserDictOrderRow.laid w) (fun _ _ _ hh h => h.of_heap hh) own started (by kernel_rfl) Tryd.func3
    (ChangeSpec.witness_shaped (enc := enc) (C := Tryd.checked) (os := os) (X := fun w _ => laidMetH Tryd.prog Rows.fnUserDictOrderRow.laid w) false (World.laidAll Tryd.prog os Rows.fnUserDictOrderRow.laid) #[.slice none 0 0, .int .u8 0] 8 (World.laidAll_os _ _ _)
      (World.shaped_of_ZipB (by kernel_rfl) (by kernel_rfl)) (by kernel_rfl) (by kernel_rfl) (by kernel_rfl)
      (by rw [MakeChecks.laidMetH_plain _ _ _ (by kernel_rfl)]; exact laidMet_laidAll _ (by kernel_rfl) (by kernel_rfl))) ?_
  intro W base args ds gs before hval0 hW hcnd hsz0 hL _
  have hsz : (DataW.weightsEach Tryd.prog (Tryd.f3.params.toList ++ Rows.fnUserDictOrderSpec.plain.varTypes Tryd.prog) (ds ++ gs)).all (· ≤ reachBytes) = true := hsz0
  have hval : ∀ (j : Nat) t v, Tryd.f3.params[j]? = some t → args[j]? = some v → Value.okWide Tryd.prog W .any base t v := hval0
  have hW' := hW
  obtain ⟨p, q, hA0, hV, rfl, hfz, hnd⟩ := hW
  have hA : DataW.TrodAll enc Tryd.prog W 0 (fun _ => true) true Tryd.f3.params.toList args.toList ds p := hA0
  rw [Tryd.params3] at hA hval
  rw [Tryd.params3] at hsz
  obtain ⟨v0, vs0, d0, ds0, p0, q0, hargs, rfl, rfl, h0, r0⟩ := trodAll_cons hA
  obtain ⟨v1, vs1, d1, ds1, p1, q1, rfl, rfl, rfl, h1, r1⟩ := trodAll_cons r0
  obtain ⟨rfl, rfl, rfl⟩ := trodAll_nil r1
  obtain rfl : args = #[v0, v1] := by cases args; simp_all
  obtain ⟨rfl, rfl⟩ := trodVars_none hV
  have lt0 : ∀ x ∈ p0, x.block < W.heap.size := by obtain ⟨m, hm⟩ := h0; exact DataW.trod_lt m _ _ _ hm
  obtain ⟨A_l, c_l, l, rfl, hc_l, hC_l, V_l⟩ := open_slice_arg (q := 0) (Opens.slice Tryd.underlying22 (by kernel_rfl) Tx.opens_rec 0) (okWide_slice Tryd.underlying22 (hval 0 22 v0 rfl rfl)) h0
  obtain ⟨n, rfl, rfl, rfl, w_n⟩ := open_int Tryd.underlying5 (hval 1 5 v1 rfl rfl) h1
  clear hA0 hval0 hsz0 hsz
  refine (Tx.order_int A_l c_l l n w_n W hC_l hc_l (Tx.sp_order hL)).mono fun e W' ⟨he, bel⟩ => ?_
  subst he
  exact ⟨_, rfl, _, _, _, [], _, [], hW', trodAll_mk1 (shut_bool Tryd.underlying4 _), (trodAll_cons_mk (Below.trod laidOut (by kernel_rfl) (of_decide_eq_true (by kernel_rfl)) h0 bel lt0) (trodAll_cons_mk (shut_int Tryd.underlying5 w_n) trodAll_mk0)), rfl, bel.frame _, fun h => by cases h⟩

theorem over : Rows.fnUserDictOrderRow.holds Tryd.pinned (OpenSpec.ofChange Rows.fnUserDictOrderSpec) :=
  OpenClaim.holds_of_wide 3 Tryd.f3 rfl rfl rfl rfl rfl rfl rfl ⟨rfl, rfl, rfl, rfl, rfl⟩ rfl rfl rfl rfl rfl (by kernel_rfl) Tryd.func3 (by kernel_rfl)
    (of_decide_eq_true (by kernel_rfl)) (by unfold Func.isWrapper; first | (rw [if_pos (by decide +kernel)]; kernel_rfl) | (rw [if_neg (by decide +kernel)]; exact ⟨rfl, rfl⟩))
    (fun os started H enc _ => lifted os started H enc)
end FnUserDictOrder
theorem fnUserDictOrder_holds : Rows.FnUserDictOrderSaid := FnUserDictOrder.over
theorem fnUserDictOrder_card : Rows.FnUserDictOrderCardSaid :=
  Claim7.holds_tied_plain_at .later [] [.data, .listed, .data, .pinned] true Rows.fnUserDictOrderCard.stood.harness true FnUserDictOrder.over (fun _ h => by cases h) (by kernel_rfl) (fun _ h => by cases h) fnUserDictOrder_row_tie rfl ⟨rfl, rfl⟩ (by kernel_rfl) rfl
    (fun f fn hf hfn => by
      obtain rfl : f = 3 := Option.some.inj ((show Tryd.prog.funcNamed "pub-kaeriten/laws.FnUserDictOrder" = some 3 by kernel_rfl).symm.trans hf) |>.symm
      obtain rfl : fn = Tryd.f3 := (Option.some.inj (Tryd.func3.symm.trans hfn)).symm
      exact ⟨by kernel_rfl, fun j t ht => by
        rw [Tryd.params3] at ht
        have hm : t ∈ ([22, 5] : List Nat) := by simpa using Array.mem_of_getElem? ht
        have hall : (([22, 5] : List Nat).all fun u => !Tryd.prog.wantsStandIn u) = true := by kernel_rfl
        exact (show Tryd.prog.wantsStandIn t = false by simpa using List.all_eq_true.1 hall t hm)⟩)
    (by kernel_rfl)
#print axioms fnUserDictOrder_card
end Go.Proofs.YteoljiclmhmbnaaDoor
