/-
  Numbers as decimal digits: plain laws; the walks of laws.digits and laws.cell.
-/
import Derived.Test.YtjifoimkjgepcaaDoorQl
import Derived.Lib.ItoaNum
import Derived.Lib.AtoiTie
import Derived.Lib.ParseIntBTie
set_option linter.unusedVariables false
set_option linter.unusedSimpArgs false
namespace Go.Proofs.YtjifoimkjgepcaaDoor.Tx
open Go.RowKit Go.Proofs.YtjifoimkjgepcaaDoor.K Go.Proofs.YtjifoimkjgepcaaDoorW.PrintWords

theorem digitVal_ofNat {d : Nat} (h : d < 10) : Lib.digitVal (UInt8.ofNat (48 + d)) = some d := by
  unfold Lib.digitVal
  have : (UInt8.ofNat (48 + d)).toNat = 48 + d := by simp; omega
  rw [this, if_pos (by omega)]
  congr 1
  omega
theorem decFrom_append (a b : List UInt8) : ∀ acc, Lib.decFrom acc (a ++ b) = (Lib.decFrom acc a).bind fun n => Lib.decFrom n b := by
  induction a with
  | nil => intro acc; rfl
  | cons x a ih =>
    intro acc
    rw [List.cons_append, Lib.decFrom, Lib.decFrom]
    cases Lib.digitVal x with
    | none => rfl
    | some d => exact ih _
theorem decFrom_digits (u : Nat) : Lib.decFrom 0 (Lib.decDigits u) = some u := by
  induction u using Nat.strongRecOn with
  | ind u ih =>
    rw [Lib.decDigits]
    split
    · rename_i h
      rw [Lib.decFrom, digitVal_ofNat h]
      simp [Lib.decFrom]
    · rename_i h
      rw [decFrom_append, ih (u / 10) (by omega)]
      simp only [Option.bind_some, Lib.decFrom, digitVal_ofNat (Nat.mod_lt u (by omega : 0 < 10))]
      congr 1
      omega
/-- Each byte of a number's digits is a digit. -/
theorem digits_mem (u : Nat) : ∀ b ∈ Lib.decDigits u, 48 ≤ b.toNat ∧ b.toNat ≤ 57 := by
  induction u using Nat.strongRecOn with
  | ind u ih =>
    intro b hb
    rw [Lib.decDigits] at hb
    split at hb
    · rename_i h
      rw [List.mem_singleton.1 hb]
      simp
      omega
    · rename_i h
      rcases List.mem_append.1 hb with hb | hb
      · exact ih (u / 10) (by omega) b hb
      · rw [List.mem_singleton.1 hb]
        simp
        omega
theorem digits_ne (u : Nat) : Lib.decDigits u ≠ [] := by
  rw [Lib.decDigits]
  split
  · simp
  · simp
theorem digits_len (k : Nat) : ∀ u, u < 10 ^ (k + 1) → (Lib.decDigits u).length ≤ k + 1 := by
  induction k with
  | zero => intro u hu; rw [Lib.decDigits, dif_pos (by omega)]; simp
  | succ k ih =>
    intro u hu
    rw [Lib.decDigits]
    split
    · simp
    · rw [List.length_append]
      have := ih (u / 10) (by rw [Nat.pow_succ] at hu; omega)
      simp
      omega
theorem itoa_mem (n : Int) : ∀ b ∈ Lib.itoa n, b = 45 ∨ (48 ≤ b.toNat ∧ b.toNat ≤ 57) := by
  intro b hb
  unfold Lib.itoa at hb
  split at hb
  · rcases List.mem_cons.1 hb with h | h
    · exact .inl h
    · exact .inr (digits_mem _ b h)
  · exact .inr (digits_mem _ b hb)
theorem itoa_no {n : Int} {c : UInt8} (h1 : c ≠ 45) (h2 : c.toNat < 48) : c ∉ Lib.itoa n := by
  intro h
  rcases itoa_mem n c h with h | h
  · exact h1 h
  · omega
theorem itoa_ne (n : Int) : Lib.itoa n ≠ [] := by
  unfold Lib.itoa
  split
  · simp
  · exact digits_ne _
theorem itoa_len7 {n : Int} (h1 : -1000000 ≤ n) (h2 : n ≤ 1000000) : (Lib.itoa n).length ≤ 8 := by
  unfold Lib.itoa
  split
  · have := digits_len 6 n.natAbs (by omega)
    simp
    omega
  · have := digits_len 6 n.toNat (by omega)
    omega
theorem itoa_len {n : Int} (h1 : -100000 < n) (h2 : n < 100000) : (Lib.itoa n).length ≤ 6 := by
  unfold Lib.itoa
  split
  · have := digits_len 4 n.natAbs (by omega)
    simp
    omega
  · have := digits_len 4 n.toNat (by omega)
    omega
theorem atoi_itoa (n : Int) : Lib.atoi (Lib.itoa n) = some n := by
  unfold Lib.itoa
  split
  · rename_i h
    rw [Lib.atoi, if_pos (by rfl), Lib.decNat, decFrom_digits]
    have := digits_ne n.natAbs
    simp [this]
    omega
  · rename_i h
    obtain ⟨b, r, hb⟩ := List.exists_cons_of_ne_nil (digits_ne n.toNat)
    have hm := digits_mem n.toNat b (by rw [hb]; exact List.mem_cons_self ..)
    rw [hb, Lib.atoi, if_neg (by intro e; have := eq_of_beq e; subst this; simp at hm), if_neg (by intro e; have := eq_of_beq e; subst this; simp at hm), ← hb, Lib.decNat, decFrom_digits]
    have := digits_ne n.toNat
    simp [this]
    omega
theorem atoiAll_itoa {n : Int} (h1 : -100000 < n) (h2 : n < 100000) : Lib.atoiAll (Lib.itoa n) = .ok n := by
  rw [Lib.atoiAll_short _ (by have := itoa_len h1 h2; omega), atoi_itoa]
  rfl
theorem ofL_app (a b : List UInt8) : ofL a ++ ofL b = ofL (a ++ b) := by
  apply ba_ext
  simp [ofL]
theorem digit_piece {u : Nat} (h : u < 10) : (⟨#[48, 49, 50, 51, 52, 53, 54, 55, 56, 57]⟩ : ByteArray).extract u (u + 1) = ofL (Lib.decDigits u) := by
  rw [Lib.decDigits_one h]
  have : ∀ v, v < 10 → (⟨#[48, 49, 50, 51, 52, 53, 54, 55, 56, 57]⟩ : ByteArray).extract v (v + 1) = ofL [UInt8.ofNat (48 + v)] := by decide
  exact this u h
set_option maxHeartbeats 400000 in
theorem digits_nat (w : World) (u : Nat) (hu : u ≤ 1000000) : Calls Tryd.prog 9 #[.int .i64 (u : Int)] w fun e w' => e = .returned (.string (ofL (Lib.decDigits u))) ∧ w' = w := by
  induction u using Nat.strongRecOn with
  | ind u ih =>
    have hneg : decide ((u : Int) < 0) = false := decide_eq_false (by omega)
    by_cases h : u < 10
    · have hlt : decide ((u : Int) < 10) = true := decide_eq_true (by omega)
      have hp := digit_piece h
      clear ih
      go_enter Tryd.func9, Tryd.ntmps9
      go_wp2_with fail
      go_ret
      exact ⟨rfl, rfl⟩
    · have hlt : decide ((u : Int) < 10) = false := decide_eq_false (by omega)
      have hd : Lib.decDigits u = Lib.decDigits (u / 10) ++ Lib.decDigits (u % 10) := by
        rw [Lib.decDigits, dif_neg h, Lib.decDigits_one (Nat.mod_lt u (by omega))]
      have I1 := Lib.hid (ih (u / 10) (by omega) (by omega))
      have I2 := Lib.hid (ih (u % 10) (by omega) (by omega))
      have za : (ofL (Lib.decDigits (u / 10))).size ≤ 7 := by rw [ofL_size]; exact digits_len 6 _ (by omega)
      have zb : (ofL (Lib.decDigits (u % 10))).size ≤ 7 := by rw [ofL_size]; exact digits_len 6 _ (by omega)
      rw [show ((u / 10 : Nat) : Int) = (u : Int) / 10 by omega] at I1
      rw [show ((u % 10 : Nat) : Int) = (u : Int) % 10 by omega] at I2
      have HD := Lib.hid hd
      clear ih hd
      go_enter Tryd.func9, Tryd.ntmps9
      go_wp2_with fail
      refine I1.out.mono ?_
      rintro e w1 ⟨rfl, rfl⟩
      go_wp2_with fail
      refine I2.out.mono ?_
      rintro e w1 ⟨rfl, rfl⟩
      go_wp2_with fail
      go_ret
      rw [HD.out, ← ofL_app]
      exact ⟨rfl, rfl⟩
set_option maxHeartbeats 400000 in
theorem digits_any (w : World) (n : Int) (h1 : -1000000 ≤ n) (h2 : n ≤ 1000000) : Calls Tryd.prog 9 #[.int .i64 n] w fun e w' => e = .returned (.string (ofL (Lib.itoa n))) ∧ w' = w := by
  by_cases hn : n < 0
  · have hneg : decide (n < 0) = true := decide_eq_true hn
    have I := Lib.hid (digits_nat w n.natAbs (by omega))
    rw [show ((n.natAbs : Nat) : Int) = -n by omega] at I
    have HI : Hid (Lib.itoa n = [45] ++ Lib.decDigits n.natAbs) := Lib.hid (by rw [Lib.itoa, if_pos hn]; rfl)
    have hwn : IntKind.i64.wrap (-n) = -n := IntWalk.i64_in _ (by omega)
    have zb : (ofL (Lib.decDigits n.natAbs)).size ≤ 7 := by rw [ofL_size]; exact digits_len 6 _ (by omega)
    go_enter Tryd.func9, Tryd.ntmps9
    go_wp2_with fail
    refine I.out.mono ?_
    rintro e w1 ⟨rfl, rfl⟩
    go_wp2_with fail
    go_ret
    rw [HI.out, ← ofL_app]
    exact ⟨rfl, rfl⟩
  · have := digits_nat w n.toNat (by omega)
    rw [show ((n.toNat : Nat) : Int) = n by omega] at this
    rw [Lib.itoa, if_neg hn]
    exact this
/-- A line of a matrix. -/
def lineL (x : Int × Int × Int) : List UInt8 := Lib.itoa x.1 ++ ([32] ++ (Lib.itoa x.2.1 ++ ([32] ++ (Lib.itoa x.2.2))))
theorem cell_any (w : World) (r c v : Int) (h1 : -1000000 ≤ r ∧ r ≤ 1000000) (h2 : -1000000 ≤ c ∧ c ≤ 1000000) (h3 : -1000000 ≤ v ∧ v ≤ 1000000) : Calls Tryd.prog 10 #[.int .i64 r, .int .i64 c, .int .i64 v] w fun e w' => e = .returned (.string (ofL (lineL (r, c, v) ++ [10]))) ∧ w' = w := by
  have I1 := Lib.hid (digits_any w r h1.1 h1.2)
  have I2 := Lib.hid (digits_any w c h2.1 h2.2)
  have I3 := Lib.hid (digits_any w v h3.1 h3.2)
  obtain ⟨A, hA⟩ : ∃ A, A = ofL (Lib.itoa r) := ⟨_, rfl⟩
  obtain ⟨B, hB⟩ : ∃ B, B = ofL (Lib.itoa c) := ⟨_, rfl⟩
  obtain ⟨C, hC⟩ : ∃ C, C = ofL (Lib.itoa v) := ⟨_, rfl⟩
  have zA : A.size ≤ 8 := by rw [hA, ofL_size]; exact itoa_len7 h1.1 h1.2
  have zB : B.size ≤ 8 := by rw [hB, ofL_size]; exact itoa_len7 h2.1 h2.2
  have zC : C.size ≤ 8 := by rw [hC, ofL_size]; exact itoa_len7 h3.1 h3.2
  have z1 : (A ++ (⟨#[32]⟩ : ByteArray)).size = A.size + 1 := ByteArray.size_append
  have z2 : (A ++ (⟨#[32]⟩ : ByteArray) ++ B).size = A.size + 1 + B.size := by rw [ByteArray.size_append, z1]
  have z3 : (A ++ (⟨#[32]⟩ : ByteArray) ++ B ++ (⟨#[32]⟩ : ByteArray)).size = A.size + 1 + B.size + 1 := by rw [ByteArray.size_append, z2]; rfl
  have z4 : (A ++ (⟨#[32]⟩ : ByteArray) ++ B ++ (⟨#[32]⟩ : ByteArray) ++ C).size = A.size + 1 + B.size + 1 + C.size := by rw [ByteArray.size_append, z3]
  rw [← hA] at I1
  rw [← hB] at I2
  rw [← hC] at I3
  have HE : Hid (A ++ (⟨#[32]⟩ : ByteArray) ++ B ++ (⟨#[32]⟩ : ByteArray) ++ C ++ (⟨#[10]⟩ : ByteArray) = ofL (lineL (r, c, v) ++ [10])) := Lib.hid (by
    have e : lineL (r, c, v) ++ [10] = ((((Lib.itoa r ++ [32]) ++ Lib.itoa c) ++ [32]) ++ Lib.itoa v) ++ [10] := by simp [lineL]
    rw [e, ← ofL_app, ← ofL_app, ← ofL_app, ← ofL_app, ← ofL_app, hA, hB, hC]
    rfl)
  clear hA hB hC
  go_enter Tryd.func10, Tryd.ntmps10
  go_wp2_with fail
  refine I1.out.mono ?_
  rintro e w1 ⟨rfl, rfl⟩
  go_wp2_with fail
  refine I2.out.mono ?_
  rintro e w1 ⟨rfl, rfl⟩
  go_wp2_with fail
  refine I3.out.mono ?_
  rintro e w1 ⟨rfl, rfl⟩
  go_wp2_with fail
  go_ret
  rw [← HE.out]
  exact ⟨rfl, rfl⟩
end Go.Proofs.YtjifoimkjgepcaaDoor.Tx
