/-
  The walks of laws.reads and laws.FnMatrixBeyond.
-/
import Derived.Test.YtjifoimkjgepcaaDoorQd
set_option linter.unusedVariables false
set_option linter.unusedSimpArgs false
namespace Go.Proofs.YtjifoimkjgepcaaDoor.Tx
open Go.RowKit Go.Proofs.YtjifoimkjgepcaaDoor.K Go.Proofs.YtjifoimkjgepcaaDoorW.PrintWords

theorem itoa_small {n : Nat} (h : n < 10) : Lib.itoa (n : Int) = [UInt8.ofNat (48 + n)] := by
  unfold Lib.itoa
  rw [if_neg (by omega), Int.toNat_natCast, Lib.decDigits_one h]
theorem mtx_reads : ofL (mtx ((1 : Nat) : Int) ((1 : Nat) : Int) [(0, 0, 5)]) = ⟨#[49, 32, 49, 10, 48, 32, 48, 32, 53, 10]⟩ := by
  have e0 : Lib.itoa (0 : Int) = [48] := itoa_small (n := 0) (by decide)
  have e1 : Lib.itoa ((1 : Nat) : Int) = [49] := itoa_small (n := 1) (by decide)
  have e5 : Lib.itoa (5 : Int) = [53] := itoa_small (n := 5) (by decide)
  simp only [mtx, entsL, lineL, List.flatMap_cons, List.flatMap_nil, e0, e1, e5]
  rfl
theorem reads_ok : ∀ x ∈ [((0 : Int), (0 : Int), (5 : Int))], EntOk x := by
  intro x hx
  rw [List.mem_singleton.1 hx]
  exact ⟨⟨by decide, by decide⟩, ⟨by decide, by decide⟩, by decide, by decide⟩
set_option maxHeartbeats 1000000 in
set_option maxRecDepth 5000 in
theorem reads_any (w : World) : Calls Tryd.prog 7 #[] w fun e w' => e = .returned (.bool true) ∧ Below w.heap.size w w' := by
  have HM := Lib.hid (matrix_any 1 1 [(0, 0, 5)] w (by decide) (by decide) reads_ok (by decide))
  rw [mtx_reads] at HM
  go_enter Tryd.func7, Tryd.ntmps7
  go_wp2_with fail
  refine HM.out.mono ?_
  rintro e w1 (⟨-, v, rfl, ho, hb⟩ | ⟨⟨x, hx, hn⟩, -⟩)
  · have hcs : costsL (1 * 1) (vecOf 1 [(0, 0, 5)]) = [5] := rfl
    rw [hcs] at ho
    obtain ⟨A, c, rfl, hC⟩ := ho.reads (n := 1) rfl
    have HC := Lib.hid hC
    have HB := Lib.hid hb
    clear ho hb hC HM hcs
    go_wp2_with fail
    have hD : (Kd.int .i64).C (w1.alloc (.cells #[.int .i64 5] tInt)) (some ⟨w1.heap.size, 0, none⟩) [(5 : Int)].length [5] := C_of_block (cs := [.int .i64 5]) (heap_new w1 _) (reps_ints _ _ [5]) (by decide)
    have HBa := Lib.hid (HB.out.alloc HB.out.size (.cells #[.int .i64 5] tInt))
    refine (sameInt_any A (some ⟨w1.heap.size, 0, none⟩) c 1 [5] [5] _ (Kd.C_alloc HC.out _) hD).mono ?_
    rintro e w2 ⟨rfl, hb⟩
    have HB2 := Lib.hid (HBa.out.trans (hb.mono HBa.out.size))
    clear hb hD
    go_wp2_with fail
    go_ret
    exact ⟨by simp, HB2.out⟩
  · rw [List.mem_singleton.1 hx] at hn
    exact absurd (And.intro (by decide) (by decide)) hn
set_option maxHeartbeats 2000000 in
set_option maxRecDepth 5000 in
theorem matrixBeyond_walk (rows cols row col : Int) (w : World) :
    Calls Tryd.prog 3 #[.int .i64 rows, .int .i64 cols, .int .i64 row, .int .i64 col] w fun e w' => e = .returned (.bool true) ∧ Below w.heap.size w w' := by
  have HL0 := Lib.hid (Below.refl w.heap.size w)
  go_enter Tryd.func3, Tryd.ntmps3
  by_cases hc0 : rows < 1
  · have hd0 : decide (rows < 1) = true := decide_eq_true hc0
    go_wp2_with fail
    refine (reads_any w).mono ?_
    rintro e wf ⟨rfl, hwf⟩
    have HLf := Lib.hid (HL0.out.trans (hwf.mono HL0.out.size))
    clear hwf
    go_wp2_with fail
    go_ret
    exact ⟨rfl, HLf.out⟩
  have hd0 : decide (rows < 1) = false := decide_eq_false hc0
  by_cases hc1 : 20 < rows
  · have hd1 : decide (20 < rows) = true := decide_eq_true hc1
    go_wp2_with fail
    refine (reads_any w).mono ?_
    rintro e wf ⟨rfl, hwf⟩
    have HLf := Lib.hid (HL0.out.trans (hwf.mono HL0.out.size))
    clear hwf
    go_wp2_with fail
    go_ret
    exact ⟨rfl, HLf.out⟩
  have hd1 : decide (20 < rows) = false := decide_eq_false hc1
  by_cases hc2 : cols < 1
  · have hd2 : decide (cols < 1) = true := decide_eq_true hc2
    go_wp2_with fail
    refine (reads_any w).mono ?_
    rintro e wf ⟨rfl, hwf⟩
    have HLf := Lib.hid (HL0.out.trans (hwf.mono HL0.out.size))
    clear hwf
    go_wp2_with fail
    go_ret
    exact ⟨rfl, HLf.out⟩
  have hd2 : decide (cols < 1) = false := decide_eq_false hc2
  by_cases hc3 : 20 < cols
  · have hd3 : decide (20 < cols) = true := decide_eq_true hc3
    go_wp2_with fail
    refine (reads_any w).mono ?_
    rintro e wf ⟨rfl, hwf⟩
    have HLf := Lib.hid (HL0.out.trans (hwf.mono HL0.out.size))
    clear hwf
    go_wp2_with fail
    go_ret
    exact ⟨rfl, HLf.out⟩
  have hd3 : decide (20 < cols) = false := decide_eq_false hc3
  by_cases hc4 : row < 0
  · have hd4 : decide (row < 0) = true := decide_eq_true hc4
    go_wp2_with fail
    refine (reads_any w).mono ?_
    rintro e wf ⟨rfl, hwf⟩
    have HLf := Lib.hid (HL0.out.trans (hwf.mono HL0.out.size))
    clear hwf
    go_wp2_with fail
    go_ret
    exact ⟨rfl, HLf.out⟩
  have hd4 : decide (row < 0) = false := decide_eq_false hc4
  by_cases hc5 : 1000 < row
  · have hd5 : decide (1000 < row) = true := decide_eq_true hc5
    go_wp2_with fail
    refine (reads_any w).mono ?_
    rintro e wf ⟨rfl, hwf⟩
    have HLf := Lib.hid (HL0.out.trans (hwf.mono HL0.out.size))
    clear hwf
    go_wp2_with fail
    go_ret
    exact ⟨rfl, HLf.out⟩
  have hd5 : decide (1000 < row) = false := decide_eq_false hc5
  by_cases hc6 : col < 0
  · have hd6 : decide (col < 0) = true := decide_eq_true hc6
    go_wp2_with fail
    refine (reads_any w).mono ?_
    rintro e wf ⟨rfl, hwf⟩
    have HLf := Lib.hid (HL0.out.trans (hwf.mono HL0.out.size))
    clear hwf
    go_wp2_with fail
    go_ret
    exact ⟨rfl, HLf.out⟩
  have hd6 : decide (col < 0) = false := decide_eq_false hc6
  by_cases hc7 : 1000 < col
  · have hd7 : decide (1000 < col) = true := decide_eq_true hc7
    go_wp2_with fail
    refine (reads_any w).mono ?_
    rintro e wf ⟨rfl, hwf⟩
    have HLf := Lib.hid (HL0.out.trans (hwf.mono HL0.out.size))
    clear hwf
    go_wp2_with fail
    go_ret
    exact ⟨rfl, HLf.out⟩
  have hd7 : decide (1000 < col) = false := decide_eq_false hc7
  obtain ⟨R, rfl⟩ := Int.eq_ofNat_of_zero_le (show 0 ≤ rows by omega)
  obtain ⟨C, rfl⟩ := Int.eq_ofNat_of_zero_le (show 0 ≤ cols by omega)
  have hR : 1 ≤ R ∧ R ≤ 20 := by omega
  have hC : 1 ≤ C ∧ C ≤ 20 := by omega
  have hok : ∀ x ∈ [(row, col, (1 : Int))], EntOk x := by
    intro x hx
    rw [List.mem_singleton.1 hx]
    exact ⟨⟨by simp only; omega, by simp only; omega⟩, ⟨by simp only; omega, by simp only; omega⟩, by simp, by simp⟩
  have HM := Lib.hid (matrix_any R C [(row, col, 1)] w hR hC hok (by simp))
  have I1 := Lib.hid (digits_any w (R : Int) (by omega) (by omega))
  have I2 := Lib.hid (digits_any w (C : Int) (by omega) (by omega))
  have I3 := Lib.hid (cell_any w row col 1 (by omega) (by omega) (by decide))
  have zd : (lineL (row, col, 1)).length ≤ 20 := line_len (hok _ (by simp))
  obtain ⟨A, hA⟩ : ∃ A, A = ofL (Lib.itoa (R : Int)) := ⟨_, rfl⟩
  obtain ⟨B, hB⟩ : ∃ B, B = ofL (Lib.itoa (C : Int)) := ⟨_, rfl⟩
  obtain ⟨D, hD⟩ : ∃ D, D = ofL (lineL (row, col, 1) ++ [10]) := ⟨_, rfl⟩
  have zA : A.size ≤ 8 := by rw [hA, ofL_size]; exact itoa_len7 (by omega) (by omega)
  have zB : B.size ≤ 8 := by rw [hB, ofL_size]; exact itoa_len7 (by omega) (by omega)
  have zD : D.size ≤ 30 := by rw [hD, ofL_size, List.length_append]; simp; omega
  have z1 : (A ++ (⟨#[32]⟩ : ByteArray)).size = A.size + 1 := ByteArray.size_append
  have z2 : (A ++ (⟨#[32]⟩ : ByteArray) ++ B).size = A.size + 1 + B.size := by rw [ByteArray.size_append, z1]
  have z3 : (A ++ (⟨#[32]⟩ : ByteArray) ++ B ++ (⟨#[10]⟩ : ByteArray)).size = A.size + 1 + B.size + 1 := by rw [ByteArray.size_append, z2]; rfl
  have HE : A ++ (⟨#[32]⟩ : ByteArray) ++ B ++ (⟨#[10]⟩ : ByteArray) ++ D = ofL (mtx (R : Int) (C : Int) [(row, col, 1)]) := by
    have e : mtx (R : Int) (C : Int) [(row, col, 1)] = (((Lib.itoa (R : Int) ++ [32]) ++ Lib.itoa (C : Int)) ++ [10]) ++ (lineL (row, col, 1) ++ [10]) := by simp [mtx, entsL]
    rw [e, ← ofL_app (((Lib.itoa (R : Int) ++ [32]) ++ Lib.itoa (C : Int)) ++ [10]), ← ofL_app ((Lib.itoa (R : Int) ++ [32]) ++ Lib.itoa (C : Int)), ← ofL_app (Lib.itoa (R : Int) ++ [32]), ← ofL_app (Lib.itoa (R : Int)), hA, hB, hD]
    rfl
  rw [← HE] at HM
  rw [← hA] at I1
  rw [← hB] at I2
  rw [← hD] at I3
  clear hA hB hD HE zd hok
  go_wp2_with fail
  refine I1.out.mono ?_
  rintro e w1 ⟨rfl, rfl⟩
  go_wp2_with fail
  refine I2.out.mono ?_
  rintro e w1 ⟨rfl, rfl⟩
  go_wp2_with fail
  refine I3.out.mono ?_
  rintro e w1 ⟨rfl, rfl⟩
  go_wp2_with fail
  refine HM.out.mono ?_
  rintro e w2 (⟨hin, v, rfl, ho, hb⟩ | ⟨⟨x, hx, hno⟩, rfl, hb⟩)
  · obtain ⟨h1, h2⟩ := hin _ (List.mem_singleton.2 rfl)
    simp only at h1 h2
    have hq1 : decide (row < (R : Int)) = true := decide_eq_true h1
    have hq2 : decide (col < (C : Int)) = true := decide_eq_true h2
    have HB := Lib.hid hb
    clear hin hb ho
    go_wp2_with fail
    refine (reads_any w2).mono ?_
    rintro e wf ⟨rfl, hwf⟩
    have HLf := Lib.hid (HB.out.trans (hwf.mono HB.out.size))
    clear hwf
    go_wp2_with fail
    go_ret
    exact ⟨by simp, HLf.out⟩
  · rw [List.mem_singleton.1 hx] at hno
    simp only at hno
    have HB := Lib.hid hb
    clear hb hx
    by_cases h1 : row < (R : Int)
    · have h2 : ¬ col < (C : Int) := fun h => hno ⟨h1, h⟩
      have hq1 : decide (row < (R : Int)) = true := decide_eq_true h1
      have hq2 : decide (col < (C : Int)) = false := decide_eq_false h2
      clear hno
      go_wp2_with fail
      refine (reads_any w2).mono ?_
      rintro e wf ⟨rfl, hwf⟩
      have HLf := Lib.hid (HB.out.trans (hwf.mono HB.out.size))
      clear hwf
      go_wp2_with fail
      go_ret
      exact ⟨by simp, HLf.out⟩
    · have hq1 : decide (row < (R : Int)) = false := decide_eq_false h1
      clear hno
      go_wp2_with fail
      refine (reads_any w2).mono ?_
      rintro e wf ⟨rfl, hwf⟩
      have HLf := Lib.hid (HB.out.trans (hwf.mono HB.out.size))
      clear hwf
      go_wp2_with fail
      go_ret
      exact ⟨by simp, HLf.out⟩
end Go.Proofs.YtjifoimkjgepcaaDoor.Tx
