/-
  The walk of PrefixSearch.
-/
import Derived.Test.YtjifoimkjgepcaaDoorDf
set_option linter.unusedVariables false
set_option linter.unusedSimpArgs false
namespace Go.Proofs.YtjifoimkjgepcaaDoor.Da
open Go.RowKit Go.ChangeShapes Go.Proofs.YtjifoimkjgepcaaDoor.K Go.Proofs.YtjifoimkjgepcaaDoorW.PrintWords

set_option maxHeartbeats 1000000 in
set_option maxRecDepth 100000 in
theorem prefix_any (g : Nat) (A : DA) (ks : Ks) (s : ByteArray) (w : World) (ht : Trie g A ks w) (hid : ∀ x ∈ ks, 0 ≤ x.2) (hcl : ∀ a ∈ bl s, 1 ≤ a) (hs : s.size ≤ 2147483647) :
    Calls Tryd.prog 43 #[.slice (some ⟨g, 0, none⟩) A.n A.n, .string s] w fun e w' => e = .returned (.tuple #[.int .i64 (lastF (hitsF ks (bl s) 0)).1, .bool (lastF (hitsF ks (bl s) 0)).2]) ∧ Below w.heap.size w w' := by
  have HT := Lib.hid ht
  have HID := Lib.hid hid
  have HCL := Lib.hid hcl
  have hn := ht.n
  have hpos := ht.pos
  clear ht hid hcl
  go_enter Tryd.func43, Tryd.ntmps43
  go_wp2_with fail
  go_loopw [4, 5, 6, 7, 8] (fun dv ov pv qv iv wr => ∃ (k q0 : Nat) (z : Int) (kk : Ks) (H : List (Int × Int)), k ≤ s.size ∧ iv = .int .i64 k ∧ qv = .int .i64 q0 ∧ pv = .int .i64 z ∧ dv = .int .i64 (lastF H).1 ∧ ov = .bool (lastF H).2 ∧ q0 < A.n ∧ Hid (Tr A (fun _ => True) q0 kk) ∧ Hid (∀ x ∈ kk, 0 ≤ x.2) ∧ Hid (hitsF ks (bl s) 0 = H ++ hitsF kk ((bl s).drop k) k) ∧ Hid (Below w.heap.size w wr)) (fun _ _ _ _ iv _ => s.size - (intOf iv).toNat)
  case atStart => exact ⟨0, 0, 0, ks, [], Nat.zero_le _, rfl, rfl, rfl, rfl, rfl, hpos, Lib.hid HT.out.tr, HID, Lib.hid rfl, Lib.hid (Below.refl _ _)⟩
  case round =>
    obtain ⟨k, q0, z, kk, H, hk, rfl, rfl, rfl, rfl, rfl, hq, HTR, HKI, HH, HW⟩ := hrel
    by_cases hlt : k < s.size
    · obtain ⟨ch, hchv, hdrop, hch255⟩ := byte_at s hlt
      have hch1 : 1 ≤ ch := HCL.out ch (List.mem_of_mem_drop (by rw [hdrop]; exact List.mem_cons_self ..))
      have hchz : ((ch : Int) == 0) = false := by rw [beq_eq_false_iff_ne]; omega
      obtain ⟨B, hB, hB1⟩ := HTR.out.base
      obtain ⟨hs1, hs2⟩ := HTR.out.step hB hch1
      have hhit : hitsF kk ((bl s).drop k) k = hitAt (tails ch kk) (k + 1) ++ hitsF (tails ch kk) ((bl s).drop (k + 1)) (k + 1) := by rw [hdrop]; rfl
      have hbB := (HT.out.rb q0 hq).2
      rw [hB] at hbB
      obtain ⟨nx, hnx⟩ : ∃ nx, nx = B + ch := ⟨_, rfl⟩
      have hnz : (B : Int) + (ch : Int) = (nx : Int) := by omega
      have hnw : IntKind.i64.wrap (nx : Int) = nx := IntWalk.i64_in _ (by omega)
      have HTW := Lib.hid (HT.out.below HW.out)
      have hcb : wr.cell? ⟨g, q0 * 2, none⟩ = some (.int .i32 (B : Int)) := by rw [← hB]; exact HTW.out.cb hq
      rw [← hnx] at hs1 hs2
      have HHIT := Lib.hid hhit
      have HS1 := Lib.hid hs1
      have HS2 := Lib.hid hs2
      clear hdrop hB hnx hs1 hs2 hhit
      by_cases hnn : nx < A.n
      · obtain ⟨x, hx⟩ : ∃ x, x = A.c nx := ⟨_, rfl⟩
        have hcc : wr.cell? ⟨g, nx * 2 + 1, none⟩ = some (.int .i32 x) := by rw [hx]; exact HTW.out.cc hnn
        have hxr := HT.out.rc nx hnn
        rw [← hx] at hxr
        have hxr1 := hxr.1
        have hxr2 := hxr.2
        have hge : decide (A.n ≤ nx) = false := by simpa using hnn
        have HX := Lib.hid hx
        clear hx hxr
        by_cases hxq : x = (q0 : Int)
        · have hne : (x != (q0 : Int)) = false := by simp [hxq]
          have HXQ := Lib.hid hxq
          clear hxq
          have htl : tails ch kk ≠ [] := fun h => HS2.out h ⟨hnn, by rw [← HX.out]; exact HXQ.out⟩
          obtain ⟨_, _, htr2⟩ := HS1.out htl
          have hks2 : ∀ x ∈ tails ch kk, 0 ≤ x.2 := fun x hx => HKI.out (ch :: x.1, x.2) (mem_tails.1 hx)
          obtain ⟨kk2, hkk2⟩ : ∃ kk2, kk2 = tails ch kk := ⟨_, rfl⟩
          rw [← hkk2] at htr2 hks2
          have HKK := Lib.hid hkk2
          obtain ⟨B2, hB2, hB21⟩ := htr2.base
          obtain ⟨he1, he2⟩ := htr2.stop hB2
          have hcb2 : wr.cell? ⟨g, nx * 2, none⟩ = some (.int .i32 (B2 : Int)) := by rw [← hB2]; exact HTW.out.cb hnn
          have hbB2 := (HT.out.rb nx hnn).2
          rw [hB2] at hbB2
          have HTR2 := Lib.hid htr2
          have HE1 := Lib.hid he1
          have HE2 := Lib.hid he2
          have HKI2 := Lib.hid hks2
          have HHIT2 : Hid (hitsF ks (bl s) 0 = (H ++ hitAt kk2 (k + 1)) ++ hitsF kk2 ((bl s).drop (k + 1)) (k + 1)) := Lib.hid (by rw [HH.out, HHIT.out, List.append_assoc, HKK.out])
          clear htl hkk2 htr2 hB2 he1 he2 hks2
          cases hfe : firstE kk2 with
          | some id =>
            obtain ⟨hl2, hc2, hbb2⟩ := HE1.out id hfe
            have hid0 : 0 ≤ id := HKI2.out _ (firstE_some hfe)
            have hidu := HT.out.rb B2 hl2
            rw [hbb2] at hidu
            have hid1 := hidu.1
            have hcc2 : wr.cell? ⟨g, B2 * 2 + 1, none⟩ = some (.int .i32 (nx : Int)) := by rw [← hc2]; exact HTW.out.cc hl2
            have hcd2 : wr.cell? ⟨g, B2 * 2, none⟩ = some (.int .i32 (-id)) := by rw [← hbb2]; exact HTW.out.cb hl2
            have hlt2 : decide (B2 < A.n) = true := by simpa using hl2
            have hle2 : decide (-id ≤ 0) = true := by simp; omega
            have hle3 : decide (0 ≤ id) = true := by simp; omega
            have HFE : Hid (hitAt kk2 (k + 1) = [(id, ((k + 1 : Nat) : Int))]) := Lib.hid (by rw [hitAt, hfe])
            clear hfe hc2 hbb2 hidu
            go_wp2_with fail
            go_quiet (fail)
            have HW2 := Lib.hid (pw_below_drewN HW.out nq)
            go_wp2_with fail
            refine ⟨⟨k + 1, nx, (q0 : Int), kk2, H ++ [(id, ((k + 1 : Nat) : Int))], by omega, by go_num, rfl, rfl, ?_, ?_, hnn, HTR2, HKI2, Lib.hid (by rw [HHIT2.out, HFE.out]), HW2⟩, by simp [intOf]; omega⟩
            · simp [lastF]
            · simp [lastF]
          | none =>
            have HFE : Hid (hitAt kk2 (k + 1) = []) := Lib.hid (by rw [hitAt, hfe])
            have hno2 := HE2.out hfe
            by_cases hl2 : B2 < A.n
            · obtain ⟨y, hy⟩ : ∃ y, y = A.c B2 := ⟨_, rfl⟩
              have hcc2 : wr.cell? ⟨g, B2 * 2 + 1, none⟩ = some (.int .i32 y) := by rw [hy]; exact HTW.out.cc hl2
              have hyr := HT.out.rc B2 hl2
              rw [← hy] at hyr
              have hyr1 := hyr.1
              have hyr2 := hyr.2
              have hlt2 : decide (B2 < A.n) = true := by simpa using hl2
              have hyn : (y == (nx : Int)) = false := by rw [beq_eq_false_iff_ne]; intro e; exact hno2 ⟨hl2, by rw [← hy]; exact e⟩
              clear hfe hno2 hy hyr
              go_wp2_with fail
              go_quiet (fail)
              have HW2 := Lib.hid (pw_below_drewN HW.out nq)
              go_wp2_with fail
              exact ⟨⟨k + 1, nx, (q0 : Int), kk2, H, by omega, by go_num, rfl, rfl, rfl, rfl, hnn, HTR2, HKI2, Lib.hid (by rw [HHIT2.out, HFE.out, List.append_nil]), HW2⟩, by simp [intOf]; omega⟩
            · have hlt2 : decide (B2 < A.n) = false := by simpa using hl2
              clear hfe hno2 hl2
              go_wp2_with fail
              go_quiet (fail)
              have HW2 := Lib.hid (pw_below_drewN HW.out nq)
              go_wp2_with fail
              exact ⟨⟨k + 1, nx, (q0 : Int), kk2, H, by omega, by go_num, rfl, rfl, rfl, rfl, hnn, HTR2, HKI2, Lib.hid (by rw [HHIT2.out, HFE.out, List.append_nil]), HW2⟩, by simp [intOf]; omega⟩
        · have hne : (x != (q0 : Int)) = true := by rw [bne_iff_ne]; exact hxq
          have hno : tails ch kk = [] := Classical.byContradiction fun h => hxq (by rw [HX.out]; exact (HS1.out h).2.1)
          have HEND : Hid (hitsF ks (bl s) 0 = H) := Lib.hid (by rw [HH.out, HHIT.out, hno, hitsF_nil]; simp [hitAt, firstE])
          clear hxq hno
          go_wp2_with fail
          go_quiet (fail)
          have HW2 := Lib.hid (pw_below_drewN HW.out nq)
          go_wp2_with fail
          go_ret2
          rw [HEND.out]
          exact ⟨rfl, HW2.out⟩
      · have hge : decide (A.n ≤ nx) = true := by simpa using hnn
        have hno : tails ch kk = [] := Classical.byContradiction fun h => hnn (HS1.out h).1
        have HEND : Hid (hitsF ks (bl s) 0 = H) := Lib.hid (by rw [HH.out, HHIT.out, hno, hitsF_nil]; simp [hitAt, firstE])
        clear hnn hno
        go_wp2_with fail
        go_quiet (fail)
        have HW2 := Lib.hid (pw_below_drewN HW.out nq)
        go_wp2_with fail
        go_ret2
        rw [HEND.out]
        exact ⟨rfl, HW2.out⟩
    · obtain rfl : k = s.size := by omega
      have HEND : Hid (hitsF ks (bl s) 0 = H) := Lib.hid (by
        rw [HH.out, List.drop_of_length_le (by rw [bl_length]; exact Nat.le_refl _)]
        simp [hitsF])
      go_wp2_with fail
      go_ret2
      rw [HEND.out]
      exact ⟨rfl, HW.out⟩
end Go.Proofs.YtjifoimkjgepcaaDoor.Da
