/-
  Numbers out of bytes; the walks of spec.dTake, impl.sized and spec.TrieRead.
-/
import Derived.Test.YtjifoimkjgepcaaDoorRf
set_option linter.unusedVariables false
set_option linter.unusedSimpArgs false
namespace Go.Proofs.YtjifoimkjgepcaaDoor.Z
open Go.RowKit Go.Proofs.YtjifoimkjgepcaaDoor.K Go.Proofs.YtjifoimkjgepcaaDoorW.PrintWords

/-- The number that eight bytes are, the least first. -/
def Num8 (bs : List Int) (N : Int) : Prop := (0 ≤ N ∧ N < 18446744073709551616) ∧ ∀ k, k < 8 → bs[k]? = some (N / 2 ^ (8 * k) % 256)
theorem num8_of (bs : List Int) (h : 8 ≤ bs.length) (hb : ∀ x ∈ bs, 0 ≤ x ∧ x < 256) : ∃ N, Num8 bs N := by
  match bs, h with
  | b0 :: b1 :: b2 :: b3 :: b4 :: b5 :: b6 :: b7 :: r, _ =>
    have h0 := hb b0 (by simp)
    have h1 := hb b1 (by simp)
    have h2 := hb b2 (by simp)
    have h3 := hb b3 (by simp)
    have h4 := hb b4 (by simp)
    have h5 := hb b5 (by simp)
    have h6 := hb b6 (by simp)
    have h7 := hb b7 (by simp)
    refine ⟨b0 + 256 * b1 + 65536 * b2 + 16777216 * b3 + 4294967296 * b4 + 1099511627776 * b5 + 281474976710656 * b6 + 72057594037927936 * b7, ⟨by omega, by omega⟩, ?_⟩
    intro k hk
    obtain rfl | rfl | rfl | rfl | rfl | rfl | rfl | rfl : k = 0 ∨ k = 1 ∨ k = 2 ∨ k = 3 ∨ k = 4 ∨ k = 5 ∨ k = 6 ∨ k = 7 := by omega
    all_goals
      simp only [List.getElem?_cons_zero, List.getElem?_cons_succ, Nat.mul_zero, Nat.mul_one, Nat.reduceMul, Int.reducePow]
      congr 1
      omega
theorem num4_of (bs : List Int) (off : Nat) (h : off + 4 ≤ bs.length) (hb : ∀ x ∈ bs, 0 ≤ x ∧ x < 256) : ∃ v : Int, (-2147483648 ≤ v ∧ v ≤ 2147483647) ∧ ∀ k, k < 4 → bs[off + k]? = some (IntKind.u64.wrap v / 2 ^ (8 * k) % 256) := by
  have hg : ∀ k, k < 4 → ∃ x, bs[off + k]? = some x ∧ 0 ≤ x ∧ x < 256 := fun k hk => ⟨bs[off + k]'(by omega), List.getElem?_eq_getElem (by omega), hb _ (List.getElem_mem (by omega))⟩
  obtain ⟨b0, g0, r0⟩ := hg 0 (by omega)
  obtain ⟨b1, g1, r1⟩ := hg 1 (by omega)
  obtain ⟨b2, g2, r2⟩ := hg 2 (by omega)
  obtain ⟨b3, g3, r3⟩ := hg 3 (by omega)
  by_cases hs : b3 < 128
  · refine ⟨b0 + 256 * b1 + 65536 * b2 + 16777216 * b3, by omega, ?_⟩
    intro k hk
    rw [IntKind.wrap_u64]
    obtain rfl | rfl | rfl | rfl : k = 0 ∨ k = 1 ∨ k = 2 ∨ k = 3 := by omega
    · rw [g0]; simp only [Nat.mul_zero, Int.reducePow]; congr 1; omega
    · rw [g1]; simp only [Nat.mul_one, Int.reducePow]; congr 1; omega
    · rw [g2]; simp only [Nat.reduceMul, Int.reducePow]; congr 1; omega
    · rw [g3]; simp only [Nat.reduceMul, Int.reducePow]; congr 1; omega
  · refine ⟨b0 + 256 * b1 + 65536 * b2 + 16777216 * b3 - 4294967296, by omega, ?_⟩
    intro k hk
    rw [IntKind.wrap_u64]
    obtain rfl | rfl | rfl | rfl : k = 0 ∨ k = 1 ∨ k = 2 ∨ k = 3 := by omega
    · rw [g0]; simp only [Nat.mul_zero, Int.reducePow]; congr 1; omega
    · rw [g1]; simp only [Nat.mul_one, Int.reducePow]; congr 1; omega
    · rw [g2]; simp only [Nat.reduceMul, Int.reducePow]; congr 1; omega
    · rw [g3]; simp only [Nat.reduceMul, Int.reducePow]; congr 1; omega
/-- What the reference says: bytes that are too few, or nothing. -/
def SpecRet (e : Ending) (P : Prop) : Prop := ∃ b : Bool, e = .returned (.tuple #[.slice none 0 0, .int .i64 1, .bool b]) ∧ (b = true → P)
/-- The bytes that lie at a place. -/
def Src (w : World) (ad : Addr) (xs : List Int) : Prop := ∀ (j : Nat) (x : Int), xs[j]? = some x → w.cell? (ad.add j) = some (.int .u8 x)
theorem high_step (N : Int) (j : Nat) (h0 : 0 ≤ N) (h1 : N < 18446744073709551616) (hj : j < 8) : N / 2 ^ (8 * j) = N / 2 ^ (8 * (j + 1)) * 256 + N / 2 ^ (8 * j) % 256 ∧ 0 ≤ N / 2 ^ (8 * (j + 1)) ∧ N / 2 ^ (8 * (j + 1)) * 256 < 18446744073709551616 ∧ N / 2 ^ (8 * j) < 18446744073709551616 := by
  obtain rfl | rfl | rfl | rfl | rfl | rfl | rfl | rfl : j = 0 ∨ j = 1 ∨ j = 2 ∨ j = 3 ∨ j = 4 ∨ j = 5 ∨ j = 6 ∨ j = 7 := by omega
  all_goals
    simp only [Nat.mul_zero, Nat.mul_one, Nat.zero_add, Nat.reduceAdd, Nat.reduceMul, Int.reducePow]
    omega
theorem high_or (N : Int) (j : Nat) (h0 : 0 ≤ N) (h1 : N < 18446744073709551616) (hj : j < 8) : bits .or .u64 (IntKind.u64.wrap (N / 2 ^ (8 * (j + 1)) * 256)) (N / 2 ^ (8 * j) % 256) = N / 2 ^ (8 * j) := by
  obtain ⟨e, a, b, c⟩ := high_step N j h0 h1 hj
  have hw : IntKind.u64.wrap (N / 2 ^ (8 * (j + 1)) * 256) = N / 2 ^ (8 * (j + 1)) * 256 := by rw [IntKind.wrap_u64]; omega
  rw [hw, bits_join .u64 64 (by decide) wraps_u64 8 _ _ (by omega) (by omega) (by omega) (by omega) (by omega) (by omega)]
  omega
set_option maxHeartbeats 1000000 in
set_option maxRecDepth 5000 in
theorem dTake_any (ad : Addr) (c : Nat) (bs : List Int) (N : Int) (w : World) (hN : Num8 bs N) (hS : Src w ad bs) :
    Calls Tryd.prog 25 #[.slice (some ad) 8 c] w fun e w' => e = .returned (.int .u64 N) ∧ w' = w := by
  have HN := Lib.hid hN
  have HS := Lib.hid hS
  clear hN hS
  go_enter Tryd.func25, Tryd.ntmps25
  go_wp2_with fail
  go_loopw [3, 4] (fun u i wr => ∃ j : Nat, j ≤ 8 ∧ i = .int .i64 ((j : Int) - 1) ∧ u = .int .u64 (N / 2 ^ (8 * j)) ∧ wr = w) (fun _ i _ => (intOf i + 1).toNat)
  case atStart => exact ⟨8, by omega, rfl, by congr 1; have := HN.out.1; simp only [Nat.reduceMul, Int.reducePow]; omega, rfl⟩
  case round =>
    obtain ⟨j, hj, rfl, rfl, rfl⟩ := hrel
    by_cases hlt : j = 0
    · subst hlt
      go_wp2_with fail
      go_ret
      exact ⟨by simp, rfl⟩
    · obtain ⟨i, rfl⟩ : ∃ i, j = i + 1 := ⟨j - 1, by omega⟩
      have hi1 : ((i + 1 : Nat) : Int) - 1 = (i : Int) := by omega
      rw [hi1]
      have hc : wr.cell? (ad.add i) = some (.int .u8 (N / 2 ^ (8 * i) % 256)) := HS.out i _ (HN.out.2 i (by omega))
      have hor := high_or N i HN.out.1.1 HN.out.1.2 (by omega)
      go_wp2_with fail
      exact ⟨⟨i, by omega, rfl, rfl, trivial⟩, by simp [intOf]⟩
set_option maxHeartbeats 1000000 in
set_option maxRecDepth 5000 in
theorem sized_any (ad : Addr) (L c : Nat) (bs : List Int) (N : Int) (w : World) (hL8 : 8 ≤ L) (hLm : L ≤ 9223372036854775807) (hN : Num8 bs N) (hS : Src w ad bs) :
    Calls Tryd.prog 26 #[.slice (some ad) L c] w fun e w' => e = .returned (.bool (decide (N ≤ L))) ∧ w' = w := by
  have HN := Lib.hid hN
  have HS := Lib.hid hS
  have hL8' : ¬ ((L : Int) < 8) := by omega
  have hwL : IntKind.u64.wrap (L : Int) = L := by rw [IntKind.wrap_u64]; omega
  clear hN hS
  go_enter Tryd.func26, Tryd.ntmps26
  go_wp2_with fail
  go_loopw [3, 8] (fun u i wr => ∃ k : Nat, k ≤ 8 ∧ i = .int .i64 k ∧ u = .int .u64 (N % 2 ^ (8 * k)) ∧ wr = w) (fun _ i _ => 8 - (intOf i).toNat)
  case atStart => exact ⟨0, Nat.zero_le _, rfl, by simp, rfl⟩
  case round =>
    obtain ⟨k, hk, rfl, rfl, rfl⟩ := hrel
    by_cases hlt : k < 8
    · have hc : wr.cell? (ad.add k) = some (.int .u8 (N / 2 ^ (8 * k) % 256)) := HS.out k _ (HN.out.2 k hlt)
      have hor := or_step N HN.out.1.1 HN.out.1.2 k hlt
      go_wp2
      exact ⟨⟨k + 1, by omega, by go_num, rfl, trivial⟩, by simp [intOf]; omega⟩
    · obtain rfl : k = 8 := by omega
      have he : N % 18446744073709551616 = N := by have := HN.out.1; omega
      go_wp2
      go_ret
      try simp [he]
theorem sized_small (A : Option Addr) (L c : Nat) (w : World) (hL8 : L < 8) : Calls Tryd.prog 26 #[.slice A L c] w fun e w' => e = .returned (.bool true) ∧ w' = w := by
  have hL8' : ((L : Int) < 8) := by omega
  go_enter Tryd.func26, Tryd.ntmps26
  go_wp2_with fail
  go_ret
  exact ⟨rfl, rfl⟩
set_option maxHeartbeats 1000000 in
set_option maxRecDepth 5000 in
theorem specRead_small (A B : Option Addr) (L c m d : Nat) (w : World) (hL8 : L < 8) : Calls Tryd.prog 16 #[.slice A L c, .slice B m d] w fun e w' => e = .returned (.tuple #[.slice none 0 0, .int .i64 1, .bool true]) ∧ w' = w := by
  have hL8' : ((L : Int) < 8) := by omega
  go_enter Tryd.func16, Tryd.ntmps16
  go_wp2_with fail
  go_ret3
  exact ⟨rfl, rfl⟩
set_option maxHeartbeats 1000000 in
set_option maxRecDepth 5000 in
theorem specRead_any (ad : Addr) (B : Option Addr) (L c m d : Nat) (bs : List Int) (N : Int) (w : World) (hL8 : 8 ≤ L) (hLm : L ≤ 2000) (hLc : L ≤ c) (hN : Num8 bs N) (hS : Src w ad bs) :
    Calls Tryd.prog 16 #[.slice (some ad) L c, .slice B m d] w fun e w' => SpecRet e ((((L : Int) - 8) / 8) < N) ∧ w' = w := by
  have hL8' : ¬ ((L : Int) < 8) := by omega
  have HD := Lib.hid (fun (W : World) (hW : W = w) C => hW ▸ dTake_any ad C bs N w hN hS)
  have hw1 : IntKind.u64.wrap ((L : Int) - 8) = (L : Int) - 8 := by rw [IntKind.wrap_u64]; omega
  have hw0 : wrap64 ((L : Int) - 8) = (L : Int) - 8 := by unfold wrap64; omega
  have hw2 : ((L : Int) - 8).tdiv 8 = ((L : Int) - 8) / 8 := Int.tdiv_eq_ediv_of_nonneg (by omega)
  have hw3 : IntKind.u64.wrap (((L : Int) - 8) / 8) = ((L : Int) - 8) / 8 := by rw [IntKind.wrap_u64]; omega
  obtain ⟨i0, hi0⟩ : ∃ i, Tryd.prog.info? 5 = some i := ⟨_, rfl⟩
  have hcT := cut_to (P := Tryd.prog) 33 5 .i64 Tryd.underlying33 hi0 (some ad) L c 8 (by omega) (by omega) hLc
  clear hN hS
  go_enter Tryd.func16, Tryd.ntmps16
  go_wp2_with fail
  refine (HD.out w rfl _).mono ?_
  rintro e w1 ⟨rfl, rfl⟩
  by_cases h1 : N < 4611686018427387904
  · by_cases h2 : ((L : Int) - 8) / 8 < N
    · go_wp2_with fail
      go_ret3
      exact ⟨⟨true, rfl, fun _ => h2⟩, rfl⟩
    · go_wp2_with fail
      go_ret3
      exact ⟨⟨_, rfl, fun h => by simpa using h⟩, rfl⟩
  · go_wp2_with fail
    go_ret3
    exact ⟨⟨false, rfl, fun h => by cases h⟩, rfl⟩
end Go.Proofs.YtjifoimkjgepcaaDoor.Z
