/-
  Marks in a row of one's own, set and swapped.
-/
import Derived.Test.YtaniafohcaiedaaDoorMk
import Derived.Outline
import Derived.Deep.QuietTactic
import Derived.BigQuiet
import Derived.Deep.RegionLaw
import Derived.BigRegion
import Derived.Deep.LoopGhost
set_option linter.unusedVariables false
set_option linter.unusedSimpArgs false
namespace Go.Proofs.YtaniafohcaiedaaDoor.M
open Go.RowKit Go.Proofs.YtaniafohcaiedaaDoor.K Go.Proofs.YtaniafohcaiedaaDoorW.PrintWords

/-- What turned makes of a list. -/
def turnL {α : Type} (l : List α) (n : Nat) : List α :=
  if l = [] then [] else if n % 2 = 1 then (l.drop (n / 2 % l.length) ++ l.take (n / 2 % l.length)).reverse else l.drop (n / 2 % l.length) ++ l.take (n / 2 % l.length)
theorem turnL_map {α β : Type} (f : α → β) (l : List α) (n : Nat) : turnL (l.map f) n = (turnL l n).map f := by
  unfold turnL
  by_cases h : l = []
  · subst h; simp
  · rw [if_neg h, if_neg (by simpa using h)]
    simp only [List.length_map]
    split <;> simp [List.map_drop, List.map_take]
theorem turnL_perm {α : Type} (l : List α) (n : Nat) : (turnL l n).Perm l := by
  unfold turnL
  by_cases h : l = []
  · subst h; simp
  · rw [if_neg h]
    have key : (l.drop (n / 2 % l.length) ++ l.take (n / 2 % l.length)).Perm l := by
      refine List.perm_append_comm.trans ?_
      rw [List.take_append_drop]
    split
    · exact (List.reverse_perm _).trans key
    · exact key

/-- The list behind so many rounds of the swapping loop. -/
def swapped {α : Type} (l : List α) (i : Nat) : List (Option α) := (List.range l.length).map fun m => if m < i ∨ l.length - 1 - i < m then l[l.length - 1 - m]? else l[m]?
theorem swapped_get {α : Type} (l l' : List α) (i : Nat) (h : l'.map some = swapped l i) (m : Nat) (hm : m < l.length) : l'[m]? = if m < i ∨ l.length - 1 - i < m then l[l.length - 1 - m]? else l[m]? := by
  have e := congrArg (fun t => t[m]?) h
  simp only [swapped, List.getElem?_map, List.getElem?_range hm, Option.map_some] at e
  cases hl : l'[m]? with
  | none => rw [hl] at e; simp at e
  | some x => rw [hl] at e; simpa using e
theorem swapped_len {α : Type} {l l' : List α} {i : Nat} (h : l'.map some = swapped l i) : l'.length = l.length := by
  have := congrArg List.length h
  simpa [swapped] using this
theorem swapped_zero {α : Type} (l : List α) : l.map some = swapped l 0 := by
  apply List.ext_getElem?
  intro m
  simp only [swapped, List.getElem?_map]
  by_cases hm : m < l.length
  · rw [List.getElem?_range hm, List.getElem?_eq_getElem hm]
    simp only [Option.map_some]
    rw [if_neg (by omega), List.getElem?_eq_getElem hm]
  · simp [hm]
theorem swapped_end {α : Type} {l l' : List α} {i : Nat} (h : l'.map some = swapped l i) (hi : l.length ≤ 2 * i + 1) : l' = l.reverse := by
  apply List.ext_getElem?
  intro m
  by_cases hm : m < l.length
  · rw [swapped_get l l' i h m hm, List.getElem?_reverse hm]
    split
    · rfl
    · congr 1; omega
  · rw [List.getElem?_eq_none (by rw [swapped_len h]; omega), List.getElem?_eq_none (by simp; omega)]
theorem swapped_step {α : Type} {l l' : List α} {i : Nat} (h : l'.map some = swapped l i) (hi : 2 * i + 1 < l.length) (hl : i < l'.length) (hl2 : l.length - 1 - i < l'.length) :
    (((l'.set i (l'[l.length - 1 - i])).set (l.length - 1 - i) (l'[i]))).map some = swapped l (i + 1) := by
  apply List.ext_getElem?
  intro m
  have hlen := swapped_len h
  by_cases hm : m < l.length
  · simp only [swapped, List.getElem?_map, List.getElem?_range hm, Option.map_some]
    have h1 := swapped_get l l' i h i (by omega)
    have h2 := swapped_get l l' i h (l.length - 1 - i) (by omega)
    rw [if_neg (by omega)] at h1
    rw [if_neg (by omega)] at h2
    rw [List.getElem?_set, List.getElem?_set]
    by_cases e1 : l.length - 1 - i = m
    · rw [if_pos e1]
      simp only [List.length_set]
      rw [if_pos (by omega), if_pos (by omega)]
      have : l.length - 1 - m = i := by omega
      rw [this, ← h1, List.getElem?_eq_getElem hl]; rfl
    · rw [if_neg e1]
      by_cases e2 : i = m
      · rw [if_pos e2, if_pos (by omega), if_pos (by omega), ← e2, ← h2, List.getElem?_eq_getElem hl2]; rfl
      · rw [if_neg e2, swapped_get l l' i h m hm]
        by_cases hc : m < i ∨ l.length - 1 - i < m
        · rw [if_pos hc, if_pos (by omega), List.getElem?_eq_getElem (by omega)]; rfl
        · rw [if_neg hc, if_neg (by omega), List.getElem?_eq_getElem (by omega)]; rfl
  · simp [swapped, hm, hlen]

def encM (m : Mk) : List Value := [.string m.1, .int .i64 m.2]
theorem reps_iff {base : Nat} {ok : Nat → Prop} {w : World} {l : List Mk} {inner : List Value} : Reps (kMk.M w base ok) kMk.sz l inner ↔ inner = l.flatMap encM := by
  have e2 : kMk.sz = 2 := rfl
  constructor
  · intro h
    induction l generalizing inner with
    | nil =>
      have := h.1
      simp at this
      rw [this]; rfl
    | cons m r ih =>
      have h0 := h.2 0 m (by simp)
      obtain ⟨c1, c2, hc, hc1, hc2⟩ := h0
      have hh : inner.take 2 = encM m := by
        rw [e2, Nat.zero_mul, List.drop_zero] at hc
        have k1 : c1 = [Value.string m.1] := hc1
        have k2 : c2 = [Value.int .i64 m.2] := hc2
        rw [hc, k1, k2]; rfl
      have ht : inner.drop 2 = r.flatMap encM := by
        apply ih
        refine ⟨by rw [List.length_drop, h.1, e2, List.length_cons]; omega, fun j p hp => ?_⟩
        have := h.2 (j + 1) p (by simpa using hp)
        rw [e2] at this ⊢
        rw [List.drop_drop, show 2 + j * 2 = (j + 1) * 2 by omega]
        exact this
      rw [← List.take_append_drop 2 inner, hh, ht]
      rfl
  · rintro rfl
    refine ⟨?_, fun j p hp => ?_⟩
    · rw [e2]
      induction l with
      | nil => rfl
      | cons m r ih => rw [List.flatMap_cons, List.length_append, ih, List.length_cons]; simp [encM]; omega
    · rw [e2]
      have hs : ((l.flatMap encM).drop (j * 2)).take 2 = encM p := by
        induction l generalizing j with
        | nil => simp at hp
        | cons m r ih =>
          cases j with
          | zero => simp at hp; subst hp; rfl
          | succ j =>
            have := ih j (by simpa using hp)
            rw [List.flatMap_cons, show (j + 1) * 2 = j * 2 + 1 + 1 by omega]
            show ((Value.string m.1 :: Value.int .i64 m.2 :: r.flatMap encM).drop (j * 2 + 1 + 1)).take 2 = encM p
            rw [List.drop_succ_cons, List.drop_succ_cons]
            exact this
      rw [hs]
      exact ⟨[.string p.1], [.int .i64 p.2], rfl, rfl, rfl⟩
theorem flat_len (l : List Mk) : (l.flatMap encM).length = 2 * l.length := by
  induction l with
  | nil => rfl
  | cons m r ih => rw [List.flatMap_cons, List.length_append, ih, List.length_cons]; simp [encM]; omega
theorem flat_set : ∀ (l : List Mk) (i : Nat) (s : ByteArray) (v : Int), i < l.length → ((l.flatMap encM).set (2 * i) (.string s)).set (2 * i + 1) (.int .i64 v) = (l.set i (s, v)).flatMap encM
  | [], i, s, v, h => by simp at h
  | m :: r, 0, s, v, h => rfl
  | m :: r, i + 1, s, v, h => by
    have ih := flat_set r i s v (by simpa using h)
    rw [List.set_cons_succ, List.flatMap_cons, List.flatMap_cons, ← ih, show 2 * (i + 1) = 2 * i + 1 + 1 by omega]
    rfl
/-- A mark is put into a row of one's own. -/
theorem R_setM {e base g cap n : Nat} {ok : Nat → Prop} {w : World} {l : List Mk} (h : kMk.R e w base ok (.slice (some ⟨g, 0, none⟩) n cap) l) (i : Nat) (hi : i < l.length) (s : ByteArray) (v : Int) :
    kMk.R e ((w.setCell ⟨g, i * 2, none⟩ (.string s)).setCell ⟨g, i * 2 + 1, none⟩ (.int .i64 v)) base ok (.slice (some ⟨g, 0, none⟩) n cap) (l.set i (s, v)) := by
  rw [Nat.mul_comm i 2]
  obtain ⟨h0, inner, ho, hr⟩ := h
  obtain rfl := reps_iff.1 hr
  refine ⟨h0, (l.set i (s, v)).flatMap encM, ?_, reps_iff.2 rfl⟩
  obtain ⟨hl, h2⟩ := ho
  rcases h2 with ⟨he, _⟩ | ⟨g', cap', cur, he, hb, hh, hnc, hcm, hcs, ht⟩
  · cases he
  · cases he
    rw [List.length_set]
    refine ⟨by rw [flat_len, List.length_set, ← flat_len]; exact hl, .inr ⟨g, cap, (cur.setIfInBounds (2 * i) (.string s)).setIfInBounds (2 * i + 1) (.int .i64 v), rfl, hb, ?_, hnc, hcm, by simpa using hcs, ?_⟩⟩
    · exact heap_set (heap_set hh _ _) _ _
    · rw [Array.toList_setIfInBounds, Array.toList_setIfInBounds, List.take_set, List.take_set, ht]
      exact flat_set l i s v hi
theorem infoRow : (Tryd.prog.info? 62).map (fun i => (i.zero, i.size, i.bytes)) = some (some (.agg #[.string ⟨#[]⟩, .int .i64 0]), 2, 24) := by kernel_rfl

/-- The cells of a row of the call's own. -/
theorem row_cells {w : World} {base e g cap : Nat} {l : List Mk} (h : kMk.R e w base (fun _ => True) (.slice (some ⟨g, 0, none⟩) l.length cap) l) :
    base ≤ g ∧ g < w.heap.size ∧ (∀ j (hj : j < l.length), w.cell? ⟨g, j * 2, none⟩ = some (.string l[j].1) ∧ w.cell? ⟨g, j * 2 + 1, none⟩ = some (.int .i64 l[j].2)) ∧ ∀ j, w.frozen? ⟨g, j, none⟩ = false := by
  obtain ⟨_, inner, ho, hr⟩ := h
  obtain rfl := reps_iff.1 hr
  rcases ho.2 with ⟨he, _⟩ | ⟨g', cap', cur, he, hg, hh, _, _, _, ht⟩
  · cases he
  · cases he
    have hcell : ∀ j u, (l.flatMap encM)[j]? = some u → w.cell? ⟨g, j, none⟩ = some u := fun j u hu => by
      have := ho.cells (g := g) rfl j u hu
      rwa [add_plain] at this
    have hget : ∀ (l : List Mk) (j : Nat) (hj : j < l.length), (l.flatMap encM)[2 * j]? = some (.string l[j].1) ∧ (l.flatMap encM)[2 * j + 1]? = some (.int .i64 l[j].2) := by
      intro l
      induction l with
      | nil => intro j hj; simp at hj
      | cons m r ih =>
        intro j hj
        cases j with
        | zero => exact ⟨rfl, rfl⟩
        | succ j =>
          have := ih j (by simpa using hj)
          rw [show 2 * (j + 1) = 2 * j + 1 + 1 by omega]
          exact this
    exact ⟨hg, lt_of_heap hh, fun j hj => ⟨hcell _ _ (by rw [Nat.mul_comm]; exact (hget l j hj).1), hcell _ _ (by rw [Nat.mul_comm]; exact (hget l j hj).2)⟩, fun j => frozen_of_heap hh j⟩

theorem ret_eq {a b : Int} (h : a = b) : Value.int .i64 a = .int .i64 b := by rw [h]
/-- The loop's relation. -/
def TurnRel (l : List Mk) (g cap base : Nat) (w : World) (i j : Value) (wr : World) : Prop :=
  ∃ (k : Nat) (l' : List Mk), i = .int .i64 k ∧ j = .int .i64 ((l.length : Int) - 1 - k) ∧ 2 * k ≤ l.length ∧ l'.map some = swapped l k ∧ kMk.R 62 wr base (fun _ => True) (.slice (some ⟨g, 0, none⟩) l'.length cap) l' ∧ Below base w wr

set_option maxHeartbeats 1000000 in
theorem turned_any (A : Option Addr) (c : Nat) (xs : List Mk) (n : Nat) (hn : n < 256) (w : World) (hc : xs.length ≤ c) (hC : kMk.C w A xs.length xs) (hb : xs.length * 48 ≤ 140737488355328) :
    Calls Tryd.prog 36 #[.slice A xs.length c, .int .u8 n] w (RetRow kMk 62 (turnL xs n) w) := by
  have hm := hC.2.1
  have HC := Lib.hid hC
  clear hC
  rcases hxs : xs with _ | ⟨x0, xr⟩
  · subst hxs
    go_enter Tryd.func36, Tryd.ntmps36
    go_wp2
    go_ret
    exact ⟨_, rfl, Kd.R_nil _ _ _ _ _, Below.refl _ _⟩
  have hne : xs ≠ [] := by rw [hxs]; simp
  rw [← hxs]
  have hpos : 0 < xs.length := by rw [hxs]; simp
  clear hxs x0 xr
  have HNE := Lib.hid hne
  clear hne
  obtain ⟨k, hk⟩ : ∃ k : Nat, k = n / 2 % xs.length := ⟨_, rfl⟩
  have hkl : k < xs.length := by rw [hk]; exact Nat.mod_lt _ hpos
  have HK := Lib.hid hk
  clear hk
  have ht : ((xs.length : Int) == 0) = false := by rw [beq_eq_false_iff_ne]; omega
  go_enter Tryd.func36, Tryd.ntmps36
  have hk' : ((n : Int) / 2 % (xs.length : Int)) = (k : Int) := by rw [HK.out, Int.natCast_emod, Int.natCast_ediv]; rfl
  obtain ⟨i0, hi0, _, hsz0, _⟩ := info_parts infoRow
  have hcutF := cut_from (P := Tryd.prog) 59 62 .i64 Tryd.underlying59 hi0 2 hsz0 A xs.length c (k : Int) (by omega) (by omega)
  have hcutT := cut_to (P := Tryd.prog) 59 62 .i64 Tryd.underlying59 hi0 A xs.length c (k : Int) (by omega) (by omega) hc
  rw [Int.toNat_natCast] at hcutF hcutT
  rw [if_neg (by omega)] at hcutF
  obtain ⟨A', hA'⟩ : ∃ A', A' = A.map (·.add (k * 2)) := ⟨_, rfl⟩
  rw [← hA'] at hcutF
  obtain ⟨m, hm'⟩ : ∃ m, m = xs.length - k := ⟨_, rfl⟩
  rw [← hm'] at hcutF
  have hd1 : kMk.C w A' m (xs.drop k) := by
    have := Kd.C_drop (m := k) (c := c) HC.out (by omega) hc
    rw [if_neg (by omega), show kMk.sz = 2 from rfl, List.length_drop] at this
    rw [hA', hm']
    exact this
  have ht1 : kMk.C w A k (xs.take k) := by
    have := Kd.C_take (m := k) HC.out (by omega)
    rw [List.length_take, Nat.min_eq_left (Nat.le_of_lt hkl)] at this
    exact this
  have hbd1 : (([] : List Mk).length + m) * 24 ≤ 140737488355328 := by rw [hm', List.length_nil]; omega
  have hbd2 : ((xs.drop k).length + k) * 24 ≤ 140737488355328 := by rw [List.length_drop]; omega
  have HBD1 := Lib.hid hbd1
  have HBD2 := Lib.hid hbd2
  have HD1 := Lib.hid hd1
  have HT1 := Lib.hid ht1
  have HA' := Lib.hid hA'
  have HM' := Lib.hid hm'
  clear hd1 ht1 hA' hm' hbd1 hbd2
  go_wp2
  go_region_law (first | (refine Kd.R_append_rows_step kMk (w0 := w) w.heap.size rfl (.tmp 18) (.tmp 21) 59 62 (.agg #[.string ⟨#[]⟩, .int .i64 0]) 24 rfl Tryd.underlying59 (by kernel_rfl) rfl (by decide) (by decide) (.slice (some ⟨w.heap.size, 0, none⟩) 0 0) [] (xs.drop k) A' m (c - k) (fun _ => True) (fun _ => False) rfl rfl (Kd.R_below (R_empty _ _ w _ (Nat.le_refl _)) (below_drew (Below.refl _ _))) (Kd.C_drew (Kd.C_alloc HD1.out _)) (fun _ _ h => h) (fun _ h => h.elim) (fun _ _ => trivial) (below_drew ((Below.refl _ _).alloc (Nat.le_refl _) _)) (by simp) HBD1.out ?_; intro v1 w1 hR1 hB1 hg1 hat1) | (refine Kd.R_append_rows_step kMk (w0 := w) w.heap.size rfl (.tmp 22) (.tmp 25) 59 62 (.agg #[.string ⟨#[]⟩, .int .i64 0]) 24 rfl Tryd.underlying59 (by kernel_rfl) rfl (by decide) (by decide) v1 (xs.drop k) (xs.take k) A k c (fun _ => True) (fun _ => False) rfl rfl (by simpa using hR1) (Kd.C_below HT1.out hB1) (fun _ _ h => h) (fun _ h => h.elim) (fun _ _ => trivial) hB1 hB1.size HBD2.out ?_; intro v2 w2 hR2 hB2 hg2 hat2))
  have hzl : (xs.drop k ++ xs.take k).length = xs.length := by simp; omega
  obtain ⟨A2, c2, hv2⟩ := Kd.R_slice hR2
  have hout : turnL xs n = if n % 2 = 1 then (xs.drop k ++ xs.take k).reverse else xs.drop k ++ xs.take k := by
    rw [turnL, if_neg HNE.out, ← HK.out]
  generalize hzs : xs.drop k ++ xs.take k = zs at hzl hv2 hR2 hout
  rw [hzl] at hv2
  subst hv2
  obtain ⟨g, rfl⟩ : ∃ g, A2 = some ⟨g, 0, none⟩ := by
    rcases hR2.2.choose_spec.1.2 with ⟨_, h0⟩ | ⟨g, cap, cur, he, _⟩
    · omega
    · simp at he; exact ⟨g, he.1⟩
  have HR2 := Lib.hid hR2
  have HB2 := Lib.hid hB2
  have HOUT := Lib.hid hout
  have HZL := Lib.hid hzl
  clear hR1 hB1 hg1 hat1 hR2 hB2 hg2 hat2 hzs hzl hout
  by_cases hodd : n % 2 = 1
  · have ho : ((n : Int) % 2 == 1) = true := by rw [beq_iff_eq]; omega
    rw [if_pos hodd] at HOUT
    have HODD := Lib.hid hodd
    clear hodd
    go_wp2
    go_loopw [7, 8] (fun i j wr => TurnRel zs g c2 w.heap.size w i j wr) (fun _ j _ => (intOf j).toNat)
    case atStart => exact ⟨0, zs, rfl, by rw [HZL.out]; go_num, by omega, swapped_zero zs, by rw [HZL.out]; exact HR2.out, HB2.out⟩
    case round =>
      obtain ⟨i, l', rfl, rfl, hi, hsw, hR, hbel⟩ := hrel
      have hlen := swapped_len hsw
      by_cases hlt : 2 * i + 1 < zs.length
      · have hil : i < l'.length := by omega
        obtain ⟨j, hjj⟩ : ∃ j, j = zs.length - 1 - i := ⟨_, rfl⟩
        have hjl : j < l'.length := by omega
        obtain ⟨_, _, hcells, hfz⟩ := row_cells hR
        obtain ⟨hci, hci'⟩ := hcells i hil
        obtain ⟨hcj, hcj'⟩ := hcells j hjl
        have hfi := hfz (i * 2)
        have hfj := hfz (j * 2)
        have hfi' := hfz (i * 2 + 1)
        have hfj' := hfz (j * 2 + 1)
        have hj : ((zs.length : Int) - 1 - i) = (j : Int) := by omega
        have p0 : (0 : Int) ≤ i := by omega
        have p1 : (i : Int) < (j : Int) := by omega
        have p2 : (i : Int) < (xs.length : Int) := by have := HZL.out; omega
        have p3 : (j : Int) < (xs.length : Int) := by have := HZL.out; omega
        have hne : ¬ i = j := by omega
        have HSW := Lib.hid hsw
        have HR := Lib.hid hR
        have HL := Lib.hid hlen
        have HJJ := Lib.hid hjj
        clear hsw hR hlen hjj hcells hfz
        go_wp2
        go_region
        go_wp2
        refine ⟨?_, ?_⟩
        · have hlen2 := HL.out
          have h1 := R_setM HR.out i hil l'[j].1 l'[j].2
          have h2 := R_setM h1 j (by rw [List.length_set]; exact hjl) l'[i].1 l'[i].2
          have hlow := (row_cells HR.out).1
          refine ⟨i + 1, (l'.set i l'[j]).set j l'[i], by go_num, ret_eq (by omega), by omega, ?_, ?_, below_drew ((((hbel.setCell hlow _).setCell hlow _).setCell hlow _).setCell hlow _)⟩
          · have := swapped_step HSW.out hlt hil (by rw [← HJJ.out]; exact hjl)
            simp only [← HJJ.out] at this
            exact this
          · have h3 := Kd.R_below h2 (below_drew (Below.refl _ _))
            simpa using h3
        · simp [intOf]; omega
      · have HSW := Lib.hid hsw
        have HR := Lib.hid hR
        have HL := Lib.hid hlen
        clear hsw hR hlen
        have hd : decide ((i : Int) < (zs.length : Int) - 1 - i) = false := decide_eq_false (by omega)
        have hd' : ¬ ((i : Int) < (zs.length : Int) - 1 - i) := by omega
        clear hlt hi
        go_wp2
        go_ret
        refine ⟨_, rfl, ?_, hbel⟩
        have h := HR.out
        rw [HL.out, HZL.out] at h
        rw [HOUT.out, ← swapped_end HSW.out (by omega)]
        exact h
  · have ho : ((n : Int) % 2 == 1) = false := by rw [beq_eq_false_iff_ne]; omega
    rw [if_neg hodd] at HOUT
    clear hodd
    go_wp2
    go_ret
    refine ⟨_, rfl, ?_, HB2.out⟩
    rw [HOUT.out]
    exact HR2.out
end Go.Proofs.YtaniafohcaiedaaDoor.M
