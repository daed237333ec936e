/-
  The walks of a connection table that is written, read, and asked.
-/
import Derived.Test.YtaniafohcaiedaaDoorZr
import Derived.Test.YtaniafohcaiedaaDoorRows
set_option linter.unusedVariables false
set_option linter.unusedSimpArgs false
namespace Go.Proofs.YtaniafohcaiedaaDoor.Z
open Go.RowKit Go.Proofs.YtaniafohcaiedaaDoor.K Go.Proofs.YtaniafohcaiedaaDoorW.PrintWords

theorem int_at {k : IntKind} {w : World} {A : Option Addr} {xs : List Int} (h : (Kd.int k).C w A xs.length xs) (i : Nat) (hi : i < xs.length) : ∃ ad, A = some ad ∧ w.cell? (ad.add i) = some (.int k xs[i]) := by
  obtain ⟨hl, hm, hc⟩ := h
  obtain ⟨ad, hA, hcells⟩ := hc (by omega)
  obtain ⟨c, hcl, hk, hcc⟩ := hcells i xs[i] (by rw [List.getElem?_eq_getElem hi])
  have hk' : c = [Value.int k xs[i]] := hk
  subst hk'
  refine ⟨ad, hA, ?_⟩
  have := hcc 0 _ rfl
  have e : (Kd.int k).sz = 1 := rfl
  rw [e, Nat.mul_one, Nat.add_zero] at this
  exact this

def In16 (xs : List Int) : Prop := ∀ x ∈ xs, -32768 ≤ x ∧ x ≤ 32767
theorem in16_take {xs : List Int} {k : Nat} (hk : k < xs.length) (h : In16 (xs.take k)) (h1 : -32768 ≤ xs[k]) (h2 : xs[k] ≤ 32767) : In16 (xs.take (k + 1)) := by
  intro x hx
  rw [List.take_succ_eq_append_getElem hk] at hx
  rcases List.mem_append.1 hx with hx | hx
  · exact h x hx
  · rw [List.mem_singleton.1 hx]; exact ⟨h1, h2⟩

def BoolIf (p : Prop) (w : World) (e : Ending) (w' : World) : Prop := ∃ b, e = .returned (.bool b) ∧ (b = true → p) ∧ w' = w
theorem mul_small {a b : Int} (h1 : 1 ≤ a) (h2 : a ≤ 64) (h3 : 1 ≤ b) (h4 : b ≤ 64) : 1 ≤ a * b ∧ a * b ≤ 4096 := by
  have h5 : 1 * 1 ≤ a * b := Int.mul_le_mul h1 h3 (by omega) (by omega)
  have h6 : a * b ≤ 64 * 64 := Int.mul_le_mul h2 h4 (by omega) (by omega)
  omega
theorem wrap_small {a : Int} (h1 : 0 ≤ a) (h2 : a ≤ 9223372036854775807) : wrap64 a = a := by unfold wrap64; omega
set_option maxHeartbeats 1000000 in
set_option maxRecDepth 5000 in
theorem table_any (rows cols : Int) (A : Option Addr) (c : Nat) (xs : List Int) (w : World) (hr : -9223372036854775808 ≤ rows ∧ rows ≤ 9223372036854775807) (hcl : -9223372036854775808 ≤ cols ∧ cols ≤ 9223372036854775807) (hC : (Kd.int .i64).C w A xs.length xs) :
    Calls Tryd.prog 12 #[.int .i64 rows, .int .i64 cols, .slice A xs.length c] w (BoolIf (In16 xs ∧ 1 ≤ rows ∧ rows ≤ 20 ∧ 1 ≤ cols ∧ cols ≤ 20 ∧ (xs.length : Int) = rows * cols) w) := by
  have hm := hC.2.1
  have HC := Lib.hid hC
  clear hC
  go_enter Tryd.func12, Tryd.ntmps12
  go_wp2
  go_loopw [11] (fun i wr => ∃ k : Nat, k ≤ xs.length ∧ i = .int .i64 k ∧ Hid (In16 (xs.take k)) ∧ wr = w) (fun i _ => xs.length - (intOf i).toNat)
  case atStart => exact ⟨0, Nat.zero_le _, rfl, Lib.hid (by simp [In16]), rfl⟩
  case round =>
    obtain ⟨k, hk, rfl, hall, rfl⟩ := hrel
    by_cases hlt : k < xs.length
    · obtain ⟨ad, rfl, hs⟩ := int_at HC.out k hlt
      by_cases h1 : xs[k] < -32768
      · go_wp2
        go_ret
        exact ⟨false, rfl, by simp, rfl⟩
      by_cases h2 : 32767 < xs[k]
      · go_wp2
        go_ret
        exact ⟨false, rfl, by simp, rfl⟩
      have HX := Lib.hid (in16_take hlt hall.out (by omega) (by omega))
      go_wp2
      exact ⟨⟨k + 1, by omega, by go_num, HX, trivial⟩, by simp [intOf]; omega⟩
    · obtain rfl : k = xs.length := by omega
      have h3 := hall.out
      rw [List.take_length] at h3
      have H3 := Lib.hid h3
      clear hall h3
      go_wp2
      all_goals go_ret
      all_goals first
        | exact ⟨false, rfl, by simp, rfl⟩
        | refine ⟨_, rfl, fun hb => ?_, rfl⟩
      have m := mul_small (a := rows) (b := cols) ‹_› (by omega) ‹_› (by omega)
      rw [wrap_small (by omega) (by omega)] at hb
      exact ⟨H3.out, ‹_›, ‹_›, ‹_›, ‹_›, by simpa using hb⟩

abbrev tCT : Nat := 72
theorem box_kept {w w' : World} {b g : Nat} {cs : Array Value} {t : TypeId} (h : w.heap[g]? = some (.cells cs t (0, 0))) (ho : Lib.OthersKept U8 (some b) w w') (hb : g ≠ b) (ht : t ≠ U8) : w'.heap[g]? = some (.cells cs t (0, 0)) :=
  ho g _ h (by simpa using hb) (by rintro c fz e; injection e with _ e _; exact ht e)
def le2s (xs : List Int) : List Int := xs.flatMap fun x => leB x 2
theorem le2s_length (xs : List Int) : (le2s xs).length = 2 * xs.length := by
  induction xs with
  | nil => rfl
  | cons x xs ih => rw [le2s, List.flatMap_cons, List.length_append, leB_length, ← le2s, ih, List.length_cons]; omega
theorem le2s_take (xs : List Int) (k : Nat) (hk : k < xs.length) : le2s (xs.take (k + 1)) = le2s (xs.take k) ++ leB xs[k] 2 := by
  rw [List.take_succ_eq_append_getElem hk, le2s, List.flatMap_append]; simp [le2s]

set_option maxHeartbeats 1000000 in
set_option maxRecDepth 5000 in
theorem ct_writeTo (rows cols : Int) (A : Option Addr) (c : Nat) (xs : List Int) (B b : Nat) (bs : List Int) (w : World) (hb : Buf B b bs w) (hB : B ≤ w.heap.size) (hl : bs.length + 16 + 2 * xs.length ≤ 140737488355328)
    (hC : ∀ w', Below B w w' → Lib.OthersKept U8 (some b) w w' → (Kd.int .i16).C w' A xs.length xs) :
    Calls Tryd.prog 39 #[.agg #[.int .i64 rows, .int .i64 cols, .slice A xs.length c], .iface 82 (.pointer (some ⟨b, 0, none⟩))] w fun e w' =>
      e = .returned (.tuple #[.int .i64 (16 + 2 * xs.length : Nat), .nilIface]) ∧ Buf B b (bs ++ leB rows 8 ++ leB cols 8 ++ le2s xs) w' ∧ Below B w w' ∧ Lib.OthersKept U8 (some b) w w' := by
  have HC := Lib.hid hC
  have hblt : b < w.heap.size := hb.lt
  have h0 : (w.alloc (.cells #[.int .i64 rows, .int .i64 cols, .slice A xs.length c] tCT)).heap[w.heap.size]? = _ := heap_alloc_new w _
  have hb0 : Buf B b bs (w.alloc (.cells #[.int .i64 rows, .int .i64 cols, .slice A xs.length c] tCT)) := by
    obtain ⟨hBb, v0, lr, hbk, hown, hne⟩ := hb
    exact ⟨hBb, v0, lr, hbk.of_heap (Below.heap_alloc _ _ _ hblt), hown.kept (grown_of_below (below_alloc (Below.refl _ _) _) (some b)) (Or.inr hne), hne⟩
  have HB0 := Lib.hid hb0
  have hbl0 : Below B w (w.alloc (.cells #[.int .i64 rows, .int .i64 cols, .slice A xs.length c] tCT)) := (Below.refl B w).alloc hB _
  have HL0 := Lib.hid hbl0
  have HO0 := Lib.hid ((Lib.OthersKept.refl U8 (some b) w).alloc (.cells #[.int .i64 rows, .int .i64 cols, .slice A xs.length c] tCT))
  have HG0 := Lib.hid h0
  clear hC hb h0 hb0 hbl0
  go_enter Tryd.func39, Tryd.ntmps39
  go_wp2_with fail
  refine (write_i64 B b bs rows _ HB0.out (by simp; omega) (by omega)).mono ?_
  rintro e w1 ⟨rfl, hb1, hl1, ho1⟩
  have HB1 := Lib.hid hb1
  have HO1 := Lib.hid (HO0.out.trans ho1)
  have hg1 := box_kept HG0.out ho1 (by omega) (by decide)
  have HL1 := Lib.hid (HL0.out.trans hl1)
  have c0 : w1.cell? ⟨w.heap.size, 0, none⟩ = some (.int .i64 rows) := cell_block hg1 0
  have c1 : w1.cell? ⟨w.heap.size, 1, none⟩ = some (.int .i64 cols) := cell_block hg1 1
  have HG1 := Lib.hid hg1
  have hs1 : B ≤ w1.heap.size := Nat.le_trans hB HL1.out.size
  clear hb1 hl1 ho1 hg1
  go_wp2_with fail
  refine (size_i64 rows w1).mono ?_
  rintro e w1' ⟨rfl, rfl⟩
  go_wp2_with fail
  refine (write_i64 B b _ cols _ HB1.out hs1 (by rw [List.length_append, leB_length]; omega)).mono ?_
  rintro e w2 ⟨rfl, hb2, hl2, ho2⟩
  have HB2 := Lib.hid hb2
  have HO2 := Lib.hid (HO1.out.trans ho2)
  have hg2 := box_kept HG1.out ho2 (by omega) (by decide)
  have HL2 := Lib.hid (HL1.out.trans hl2)
  have d1 : w2.cell? ⟨w.heap.size, 1, none⟩ = some (.int .i64 cols) := cell_block hg2 1
  have d2 : w2.cell? ⟨w.heap.size, 2, none⟩ = some (.slice A xs.length c) := cell_block hg2 2
  have HG2 := Lib.hid hg2
  have hs2 : B ≤ w2.heap.size := Nat.le_trans hB HL2.out.size
  clear hb2 hl2 ho2 hg2 c0 c1
  go_wp2_with fail
  refine (size_i64 cols w2).mono ?_
  rintro e w2' ⟨rfl, rfl⟩
  go_wp2
  go_loopw [39, 4] (fun i n wr => ∃ k : Nat, k ≤ xs.length ∧ i = .int .i64 k ∧ n = .int .i64 (16 + 2 * k : Nat) ∧ Hid (Buf B b (bs ++ leB rows 8 ++ leB cols 8 ++ le2s (xs.take k)) wr) ∧ Hid (Below B w wr) ∧ Hid (Lib.OthersKept U8 (some b) w wr) ∧ Hid (wr.heap[w.heap.size]? = some (.cells #[.int .i64 rows, .int .i64 cols, .slice A xs.length c] tCT (0, 0)))) (fun i _ _ => xs.length - (intOf i).toNat)
  case atStart => exact ⟨0, Nat.zero_le _, rfl, rfl, Lib.hid (by simpa [le2s] using HB2.out), HL2, HO2, HG2⟩
  case round =>
    obtain ⟨k, hk, rfl, rfl, hB3, hL3, hO3, hG3⟩ := hrel
    have f2 : wr.cell? ⟨w.heap.size, 2, none⟩ = some (.slice A xs.length c) := cell_block hG3.out 2
    have hs3 : B ≤ wr.heap.size := Nat.le_trans hB hL3.out.size
    clear d1 d2
    by_cases hlt : k < xs.length
    · obtain ⟨ad, rfl, hs⟩ := int_at (HC.out wr hL3.out hO3.out) k hlt
      go_wp2_with fail
      refine (write_i16 B b _ xs[k] wr hB3.out hs3 (by simp only [List.length_append, leB_length, le2s_length, List.length_take]; omega)).mono ?_
      rintro e w4 ⟨rfl, hb4, hl4, ho4⟩
      have HB4 := Lib.hid hb4
      have HO4 := Lib.hid (hO3.out.trans ho4)
      have hg4 := box_kept hG3.out ho4 (by omega) (by decide)
      have HL4 := Lib.hid (hL3.out.trans hl4)
      obtain ⟨ad', had', hs4⟩ := int_at (HC.out w4 HL4.out HO4.out) k hlt
      obtain rfl := Option.some.inj had'
      have e2 : w4.cell? ⟨w.heap.size, 2, none⟩ = some (.slice (some ad) xs.length c) := cell_block hg4 2
      have HG4 := Lib.hid hg4
      clear hb4 hl4 ho4 hg4 hs f2
      go_wp2_with fail
      refine (size_i16 xs[k] w4).mono ?_
      rintro e w4' ⟨rfl, rfl⟩
      go_wp2
      refine ⟨⟨k + 1, by omega, by go_num, by go_num, Lib.hid ?_, HL4, HO4, HG4⟩, by simp [intOf]; omega⟩
      rw [le2s_take _ _ hlt, ← List.append_assoc]
      exact HB4.out
    · obtain rfl : k = xs.length := by omega
      have hbb := hB3.out
      rw [List.take_length] at hbb
      have HBB := Lib.hid hbb
      clear hbb
      go_wp2
      go_ret2
      exact ⟨rfl, HBB.out, hL3.out, hO3.out⟩
end Go.Proofs.YtaniafohcaiedaaDoor.Z
