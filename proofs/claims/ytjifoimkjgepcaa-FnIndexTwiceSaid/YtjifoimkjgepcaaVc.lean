/-
  The walks of the closures that an index is asked by, and of IndexTable.CommonPrefixSearchCallback.
-/
import Derived.Test.YtjifoimkjgepcaaVb
set_option linter.unusedVariables false
set_option linter.unusedSimpArgs false
namespace Go.Proofs.Ytjifoimkjgepcaa.Da
open Go.RowKit Go.ChangeShapes Go.Proofs.Ytjifoimkjgepcaa.K Go.Proofs.YtjifoimkjgepcaaW.PrintWords Go.Maps

abbrev tIAns : Nat := 56
abbrev tFn : Nat := 128
/-- An answer in memory, its calls v. -/
def IAt (ab : Nat) (a0 a1 a2 v : Value) (w : World) : Prop := w.heap[ab]? = some (.cells #[a0, a1, a2, v] tIAns (0, 0))
theorem callsF_append (cnt : Nat → Nat) (H K : List (Int × Int)) : callsF cnt (H ++ K) = callsF cnt H ++ callsF cnt K := by simp [callsF]
theorem callsF_length {cnt : Nat → Nat} {H : List (Int × Int)} (h : ∀ x ∈ H, cnt x.1.toNat ≤ 100000) : (callsF cnt H).length ≤ H.length * 100001 := by
  induction H with
  | nil => simp [callsF]
  | cons x H ih =>
    have h1 := ih (fun y hy => h y (by simp [hy]))
    have h2 := h x (by simp)
    have e : callsF cnt (x :: H) = (rng x.1 (cnt x.1.toNat)).map (fun i => (i, x.2)) ++ callsF cnt H := by simp [callsF]
    rw [e, List.length_append, List.length_map, rng_length, List.length_cons]
    omega
set_option maxHeartbeats 1000000 in
set_option maxRecDepth 100000 in
theorem iclosure_any (ab : Nat) (a0 a1 a2 v : Value) (H : List Hit) (id l : Int) (w0 w : World) (hA : IAt ab a0 a1 a2 v w) (hR : kHit.R tHit w w0.heap.size (fun _ => True) v H) (hk : Kp ab ab w0 w) (hab : ab < w0.heap.size) (hl : H.length ≤ 8796093022000) :
    Calls Try.prog 83 #[.int .i64 id, .int .i64 l, .pointer (some ⟨ab, 0, none⟩)] w fun e w' => e = .returned (.tuple #[]) ∧ ∃ v', IAt ab a0 a1 a2 v' w' ∧ kHit.R tHit w' w0.heap.size (fun _ => True) v' (H ++ [(id, l)]) ∧ Kp ab ab w0 w' := by
  have hc5 : w.cell? ⟨ab, 3, none⟩ = some v := by rw [cell_of_heap hA]; rfl
  obtain ⟨w1, hw1⟩ : ∃ w1, w1 = w.alloc (.cells #[.int .i64 id, .int .i64 l] tHit) := ⟨_, rfl⟩
  obtain ⟨Av, cv, rfl⟩ := Kd.R_slice hR
  have HA := Lib.hid hA
  have HR := Lib.hid hR
  have HK := Lib.hid hk
  clear hA hR hk
  go_enter Try.func83, Try.ntmps83
  go_wp2_with (at_builtin; refine kapp (w0 := w) kHit w0.heap.size rfl _ _ 40 tHit (.agg #[.int .i64 0, .int .i64 0]) 16 rfl Try.underlying40 infoHit rfl (by decide) (by decide) _ H (id, l) [.int .i64 id, .int .i64 l] (fun _ => True) (fun _ => False) w.heap.size rfl rfl ?hg (hit_M _ _ _ _) (fun _ hk => hk.elim) (fun _ _ => trivial) (Kd.R_alloc HR.out _) ((Below.refl _ _).alloc HK.out.size _) (by have := HK.out.size; simp; omega) (by omega) ?_)
  case hg =>
    intro j u hj
    rw [cell_of_heap (heap_new w _)]
    simpa using hj
  intro v1 w2 ho hb hg hat
  obtain ⟨Av1, cv1, rfl⟩ := Kd.R_slice ho
  have hA2 : IAt ab a0 a1 a2 (.slice Av H.length cv) w2 := (hb.block ab hab).trans HA.out
  have hc6 : w2.cell? ⟨ab, 3, none⟩ = some (.slice Av H.length cv) := by rw [cell_of_heap hA2]; rfl
  have hf6 : w2.frozen? ⟨ab, 3, none⟩ = false := frozen_of_heap hA2 3
  have HA2 := Lib.hid hA2
  have HO := Lib.hid ho
  have HK2 : Hid (Kp ab ab w0 w2) := Lib.hid ⟨hb.os.trans HK.out.os, hb.tape.trans HK.out.tape, hb.output.trans HK.out.output, Nat.le_trans HK.out.size hb.size, fun k h1 h2 h3 => (hb.block k h1).trans (HK.out.block k h1 h2 h3)⟩
  clear hA2 ho hb hg hat hc5
  go_wp2
  go_end0
  refine ⟨rfl, _, ?_, Kd.R_set HO.out HA2.out (by decide) 3 _, HK2.out.set (p := ⟨ab, 3, none⟩) (.inl rfl) _⟩
  unfold IAt
  rw [heap_set HA2.out, List.length_append]
  rfl
/-- What the closure of CommonPrefixSearchCallback captures. -/
structure Capt (bi bc g bm ab : Nat) (A : DA) (cnt : Nat → Nat) (w0 : World) : Prop where
  hbi : w0.heap[bi]? = some (.cells #[.slice (some ⟨g, 0, none⟩) A.n A.n, .map (some bm)] tIdx (0, 0))
  hbc : w0.heap[bc]? = some (.cells #[.func (.func 83) #[] #[.pointer (some ⟨ab, 0, none⟩)]] tFn (0, 0))
  dup : Dup bm cnt w0
  ni : bi ≠ ab
  nc : bc ≠ ab
  nm : bm ≠ ab
  hab : ab < w0.heap.size
def Okc (cnt : Nat → Nat) (z : Int) : Prop := ∃ j : Nat, z = (j : Int) ∧ j + cnt j ≤ 2147483640 ∧ cnt j ≤ 100000
set_option maxHeartbeats 1000000 in
set_option maxRecDepth 100000 in
theorem ixclosure_any (bi bc g bm ab : Nat) (A : DA) (cnt : Nat → Nat) (a0 a1 a2 v : Value) (H : List Hit) (x y : Int) (w0 w : World) (hcp : Capt bi bc g bm ab A cnt w0) (hA : IAt ab a0 a1 a2 v w) (hR : kHit.R tHit w w0.heap.size (fun _ => True) v H) (hk : Kp ab ab w0 w) (hl : H.length ≤ 8796092000000) (hx : Okc cnt x) :
    Calls Try.prog 99 #[.int .i64 x, .int .i64 y, .pointer (some ⟨bi, 0, none⟩), .pointer (some ⟨bc, 0, none⟩)] w fun e w' => e = .returned (.tuple #[]) ∧ ∃ v', IAt ab a0 a1 a2 v' w' ∧ kHit.R tHit w' w0.heap.size (fun _ => True) v' (H ++ (rng x (cnt x.toNat)).map fun i => (i, y)) ∧ Kp ab ab w0 w' := by
  obtain ⟨j, rfl, hjc, hj1⟩ := hx
  have hbi := (hk.block bi (lt_of_heap hcp.hbi) hcp.ni hcp.ni).trans hcp.hbi
  have hc1 : w.cell? ⟨bi, 1, none⟩ = some (.map (some bm)) := by rw [cell_of_heap hbi]; rfl
  obtain ⟨n, D, hn, hown, hD⟩ := hcp.dup.keep (hk.block bm hcp.dup.lt hcp.nm hcp.nm)
  have HOWN := Lib.hid hown
  have HDD := Lib.hid hD
  have HKEY : Hid (keyOf Try.prog tI32 (.int .i32 (j : Int)) = some (.int .i32 (j : Int))) := Lib.hid (keyOf_int_mk Try.underlying21 (wf_i32 (by omega) (by omega)))
  have hj32 : IntKind.i32.wrap (j : Int) = j := IntWalk.i32_in _ (by omega)
  have HCP := Lib.hid hcp
  have HA := Lib.hid hA
  have HR := Lib.hid hR
  have HK := Lib.hid hk
  obtain ⟨N, hN⟩ : ∃ N, N = cnt j := ⟨_, rfl⟩
  rw [← hN] at hjc hj1
  rw [show ((j : Int)).toNat = j from Int.toNat_natCast j, ← hN]
  have HN := Lib.hid hN
  clear hcp hA hR hk hbi hown hD hN
  go_enter Try.func99, Try.ntmps99
  go_upto_region 1 with (at_lookup; refine wpList_lookup_own_int _ rfl _ _ tMp rfl tI32 tI32 .i32 lawI Try.underlying99 Try.underlying21 (zeroI32 _) bm n D rfl HOWN.out _ _ rfl HKEY.out ?_; intro c hat hwc; obtain rfl := (dup_val HDD.out (by omega) hat).trans (by rw [← HN.out]); clear hat hwc)
  go_upto_region 2 with fail
  clear HOWN HDD HKEY hc1
  go_loopw [7] (fun iv wr => ∃ (i : Nat) (v : Value), i ≤ N + 1 ∧ iv = .int .i64 ((j : Int) + (i : Int)) ∧ Hid (IAt ab a0 a1 a2 v wr) ∧ Hid (kHit.R tHit wr w0.heap.size (fun _ => True) v (H ++ ((rng (j : Int) N).take i).map fun z => (z, y))) ∧ Hid (Kp ab ab w0 wr)) (fun iv _ => N + 1 - (intOf iv - (j : Int)).toNat)
  case atStart => exact ⟨0, v, Nat.zero_le _, by simp, HA, by simpa using HR, HK⟩
  case round =>
    obtain ⟨i, v1, hi, rfl, HA1, HR1, HK1⟩ := hrel
    have hbc := (HK1.out.block bc (lt_of_heap HCP.out.hbc) HCP.out.nc HCP.out.nc).trans HCP.out.hbc
    have hcc : wr.cell? ⟨bc, 0, none⟩ = some (.func (.func 83) #[] #[.pointer (some ⟨ab, 0, none⟩)]) := by rw [cell_of_heap hbc]; rfl
    by_cases hlt : i < N + 1
    · have hin : (j : Int) + (i : Int) < (j : Int) + (N : Int) + 1 := by omega
      have HC := Lib.hid (iclosure_any ab a0 a1 a2 v1 _ ((j : Int) + (i : Int)) y w0 wr HA1.out HR1.out HK1.out HCP.out.hab (by simp [rng_length]; omega))
      have HT : Hid ((rng (j : Int) N).take (i + 1) = (rng (j : Int) N).take i ++ [(j : Int) + (i : Int)]) := Lib.hid (by rw [List.take_succ_eq_append_getElem (by rw [rng_length]; exact hlt)]; simp [rng])
      clear hbc
      go_wp2_with fail
      refine HC.out.mono ?_
      rintro e w3 ⟨rfl, v3, h1, h2, h3⟩
      have HX1 := Lib.hid h1
      have HX2 : Hid (kHit.R tHit w3 w0.heap.size (fun _ => True) v3 (H ++ ((rng (j : Int) N).take (i + 1)).map fun z => (z, y))) := Lib.hid (by rw [HT.out, List.map_append, ← List.append_assoc]; exact h2)
      have HX3 := Lib.hid h3
      clear h1 h2 h3 HC
      go_wp2_with fail
      exact ⟨⟨i + 1, v3, by omega, by go_num, HX1, HX2, HX3⟩, by simp [intOf]; omega⟩
    · obtain rfl : i = N + 1 := by omega
      have hin : ¬ ((j : Int) + ((N + 1 : Nat) : Int) < (j : Int) + (N : Int) + 1) := by omega
      have hr := HR1.out
      rw [List.take_of_length_le (by rw [rng_length]; exact Nat.le_refl _)] at hr
      have HR2 := Lib.hid hr
      clear hr hbc
      go_wp2_with fail
      go_end0
      exact ⟨rfl, v1, HA1.out, HR2.out, HK1.out⟩
end Go.Proofs.Ytjifoimkjgepcaa.Da
