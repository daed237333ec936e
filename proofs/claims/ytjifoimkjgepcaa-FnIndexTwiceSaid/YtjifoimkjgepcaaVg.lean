/-
  The walks of impl.Index, of what is refused, and of laws.indexes.
-/
import Derived.Test.YtjifoimkjgepcaaVf
import Derived.Test.YtjifoimkjgepcaaSameInt
set_option linter.unusedVariables false
set_option linter.unusedSimpArgs false
namespace Go.Proofs.Ytjifoimkjgepcaa.Da
open Go.RowKit Go.ChangeShapes Go.Proofs.Ytjifoimkjgepcaa.K Go.Proofs.YtjifoimkjgepcaaW.PrintWords Go.Maps

theorem ix_okc {ws : List ByteArray} (ho : Ord ws false) (hl : ws.length ≤ 100000) : (∀ x ∈ ksAll (ixOf ws).K (ixOf ws).I, Okc (ixOf ws).cnt x.2) ∧ Okc (ixOf ws).cnt 0 := by
  have h := ixF_inv ho ws.length (Nat.le_refl _)
  have hp : 0 < ws.length := List.length_pos_iff.2 ho.1
  have hc : ∀ j : Nat, j < ws.length → Okc (ixOf ws).cnt (j : Int) := fun j hj => ⟨j, rfl, by have := h.cb j hj; show j + (ixF ws ws.length).cnt j ≤ _; omega, by have := h.cb j hj; show (ixF ws ws.length).cnt j ≤ _; omega⟩
  refine ⟨fun x hx => ?_, hc 0 hp⟩
  have hm := mem_ids (p := x.1) (id := x.2) h.len hx
  have h2 := h.ids _ hm
  have := hc x.2.toNat (by omega)
  rwa [show ((x.2.toNat : Nat) : Int) = x.2 by omega] at this
/-- Inputs that may be asked. -/
def AskedI (inputs : List ByteArray) : Prop := inputs.length ≤ 2147483647 ∧ ∀ s ∈ inputs, (∀ a ∈ bl s, 1 ≤ a) ∧ s.size ≤ 10000000
def IxRet (ws inputs : List ByteArray) (w : World) (e : Ending) (w' : World) : Prop :=
  ∃ v, e = .returned (.tuple #[v, .int .i64 0]) ∧ kIAns.R tIAns w' w.heap.size (fun _ => True) v (inputs.map (ansI (ixOf ws))) ∧ Below w.heap.size w w'
set_option maxHeartbeats 1000000 in
set_option maxRecDepth 100000 in
theorem index_any (Ak An : Option Addr) (ck cn : Nat) (ws inputs : List ByteArray) (w : World) (ho : Ord ws false) (hkC : Kd.string.C w Ak ws.length ws) (hl : ws.length ≤ 100000) (hs : sumL (ixOf ws).K ≤ 4000) (hnC : Kd.string.C w An inputs.length inputs) (hin : AskedI inputs) :
    Calls Try.prog 34 #[.slice Ak ws.length ck, .slice An inputs.length cn] w (IxRet ws inputs w) := by
  have HO := Lib.hid ho
  have HKC := Lib.hid hkC
  have HNC := Lib.hid hnC
  have HIN := Lib.hid hin
  have HS := Lib.hid hs
  clear ho hkC hnC hin hs
  go_enter Try.func34, Try.ntmps34
  go_wp2_with fail
  refine (clone_strs Ak ck ws w HKC.out (by omega)).mono ?_
  rintro e w1 ⟨v1, rfl, hr1, hb1⟩
  obtain ⟨A1, c1, rfl, -, hC1⟩ := Kd.R_reads hr1
  have HB1 := Lib.hid hb1
  have HBD := Lib.hid (ixBuild_any A1 c1 ws w1 HO.out hC1 (by omega) HS.out)
  clear hr1 hb1 hC1
  go_wp2_with fail
  refine HBD.out.mono ?_
  rintro e w2 ⟨g, A, bm, rfl, ht, hd, hb2⟩
  have HB2 := Lib.hid (HB1.out.trans (hb2.mono HB1.out.size))
  obtain ⟨bx, hbx⟩ : ∃ bx, bx = w2.heap.size := ⟨_, rfl⟩
  obtain ⟨w3, hw3⟩ : ∃ w3, w3 = w2.alloc (.cells #[.slice (some ⟨g, 0, none⟩) A.n A.n, .map (some bm)] tIdx) := ⟨_, rfl⟩
  have hb3 : Below w2.heap.size w2 w3 := by rw [hw3]; exact (Below.refl _ _).alloc (Nat.le_refl _) _
  have hx3 : w3.heap[bx]? = some (.cells #[.slice (some ⟨g, 0, none⟩) A.n A.n, .map (some bm)] tIdx (0, 0)) := by rw [hw3, hbx]; exact heap_new _ _
  have hc0 : w3.cell? ⟨bx, 0, none⟩ = some (.slice (some ⟨g, 0, none⟩) A.n A.n) := by rw [cell_of_heap hx3]; rfl
  have hc1 : w3.cell? ⟨bx, 1, none⟩ = some (.map (some bm)) := by rw [cell_of_heap hx3]; rfl
  have HB3 := Lib.hid (HB2.out.trans (hb3.mono HB2.out.size))
  obtain ⟨hk1, hk0⟩ := ix_okc HO.out hl
  have HAS := Lib.hid (indexAsk_any g bm A (ixOf ws).cnt (ksAll (ixOf ws).K (ixOf ws).I) An cn inputs w3 (ht.below hb3) (hd.below hb3) hk1 hk0 (Kd.C_below HNC.out HB3.out) HIN.out.2 HIN.out.1)
  clear ht hd hb2 hb3 hx3 hk1 hk0 HBD
  go_upto_region 2 with fail
  rw [← hw3, ← hbx]
  clear hw3 hbx
  go_wp2_with fail
  refine HAS.out.mono ?_
  rintro e w4 ⟨v4, rfl, hr4, hb4⟩
  have HR4 := Lib.hid (Kd.R_lower hr4 HB3.out.size)
  have HB4 := Lib.hid (HB3.out.trans (hb4.mono HB3.out.size))
  clear hr4 hb4 HAS
  go_wp2_with fail
  go_ret2
  exact ⟨_, rfl, HR4.out, HB4.out⟩

/-- A list that does not ascend is not sorted. -/
theorem sorted_no (A : Option Addr) (c : Nat) (xs : List ByteArray) (w : World) (hC : Kd.string.C w A xs.length xs) (hs : ∃ i, ∃ h : i + 1 < xs.length, ltB xs[i + 1] xs[i] = true) :
    Calls Try.prog 64 #[.slice A xs.length c] w fun e w' => e = .returned (.bool false) ∧ ∃ n, w' = w.drewN n := by
  have hm := hC.2.1
  have HC := Lib.hid hC
  have HS := Lib.hid hs
  clear hC hs
  go_enter Try.func64, Try.ntmps64
  go_wp2_with fail
  go_loopw [3] (fun i wr => ∃ z : Int, i = .int .i64 z ∧ z < xs.length ∧ -1 ≤ z ∧ Hid (∃ i, ∃ h : i + 1 < xs.length, ltB xs[i + 1] xs[i] = true ∧ (i : Int) + 1 ≤ z) ∧ Hid (∃ n, wr = w.drewN n)) (fun i _ => (intOf i + 1).toNat)
  case atStart =>
    obtain ⟨i, h, h1⟩ := HS.out
    exact ⟨_, rfl, by omega, by omega, Lib.hid ⟨i, h, h1, by omega⟩, Lib.hid ⟨0, rfl⟩⟩
  case round =>
    obtain ⟨z, rfl, hz1, hz2, HD, HW⟩ := hrel
    by_cases hz : 0 < z
    · obtain ⟨k, hk⟩ : ∃ k : Nat, z = ((k + 1 : Nat) : Int) := ⟨(z - 1).toNat, by omega⟩
      obtain ⟨k1, hk1⟩ : ∃ k1, k1 = k + 1 := ⟨_, rfl⟩
      rw [← hk1] at hk
      subst hk
      have hkl : k1 < xs.length := by omega
      have hsub : (k1 : Int) - 1 = (k : Int) := by omega
      have hkl0 : k < xs.length := by omega
      obtain ⟨ad, rfl, h1⟩ := strs_at HC.out k1 hkl
      obtain ⟨ad2, he, h2⟩ := strs_at HC.out k hkl0
      injection he with he
      subst he
      have h1' : wr.cell? (ad.add k1) = some (.string xs[k1]) := by obtain ⟨n, hn⟩ := HW.out; rw [hn]; exact h1
      have h2' : wr.cell? (ad.add k) = some (.string xs[k]) := by obtain ⟨n, hn⟩ := HW.out; rw [hn]; exact h2
      clear h1 h2
      have hwk : IntKind.i64.wrap (k : Int) = k := IntWalk.i64_in _ (by omega)
      have HK := Lib.hid hk1
      clear hk1
      cases hlt : ltB xs[k1] xs[k] with
      | false =>
        have HLT := Lib.hid hlt
        clear hlt
        go_wp2_with fail
        go_quiet ((go_at_call 94; exact Calls.quiet_of_same ((less_any _ _ _).mono (fun e W ⟨h1, h2⟩ => ⟨by rw [h1, HLT.out], h2.symm⟩))))
        go_wp2_with fail
        refine ⟨⟨_, rfl, by omega, by omega, Lib.hid ?_, Lib.hid (by obtain ⟨n, hn⟩ := HW.out; exact ⟨_, by rw [hn, World.drewN_drewN]⟩)⟩, ?_⟩
        · obtain ⟨i, h, hd, hi⟩ := HD.out
          refine ⟨i, h, hd, ?_⟩
          rcases Nat.lt_or_ge (i + 1) k1 with h3 | h3
          · omega
          · have e : i = k := by have := HK.out; omega
            subst e
            have e1 := HK.out
            subst e1
            rw [HLT.out] at hd
            cases hd
        · have := HK.out
          simp [intOf]
          omega
      | true =>
        have HLT := Lib.hid hlt
        clear hlt
        go_wp2_with fail
        go_quiet ((go_at_call 94; exact Calls.quiet_of_same ((less_any _ _ _).mono (fun e W ⟨h1, h2⟩ => ⟨by rw [h1, HLT.out], h2.symm⟩))))
        go_wp2_with fail
        go_ret
        exact ⟨rfl, by obtain ⟨n, hn⟩ := HW.out; exact ⟨_, by rw [hn, World.drewN_drewN]⟩⟩
    · obtain ⟨i, h, hd, hi⟩ := HD.out
      exact absurd hi (by omega)
end Go.Proofs.Ytjifoimkjgepcaa.Da
