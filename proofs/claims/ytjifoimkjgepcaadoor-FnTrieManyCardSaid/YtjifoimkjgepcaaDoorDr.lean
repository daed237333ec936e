/-
  The walk of CommonPrefixSearchCallback with the closure of trieAsk.
-/
import Derived.Test.YtjifoimkjgepcaaDoorDo
set_option linter.unusedVariables false
set_option linter.unusedSimpArgs false
namespace Go.Proofs.YtjifoimkjgepcaaDoor.Da
open Go.RowKit Go.ChangeShapes Go.Proofs.YtjifoimkjgepcaaDoor.K Go.Proofs.YtjifoimkjgepcaaDoorW.PrintWords

theorem Trie.kp {g ab : Nat} {A : DA} {ks : Ks} {w w' : World} (h : Trie g A ks w) (k : Kp ab ab w w') (hn : g ≠ ab) : Trie g A ks w' := { h with arr := (k.block g (lt_of_heap h.arr) hn hn).trans h.arr }
set_option maxHeartbeats 1000000 in
set_option maxRecDepth 100000 in
theorem callback_any (ab : Nat) (a0 a1 a2 a3 a4 : Value) (g : Nat) (A : DA) (ks : Ks) (s : ByteArray) (w : World) (ht : Trie g A ks w) (hid : ∀ x ∈ ks, 0 ≤ x.2) (hcl : ∀ a ∈ bl s, 1 ≤ a) (hs : s.size ≤ 2147483647) (hA : AnsAt ab a0 a1 a2 a3 a4 (.slice none 0 0) w) :
    Calls Tryd.prog 46 #[.slice (some ⟨g, 0, none⟩) A.n A.n, .string s, .func (.func 47) #[] #[.pointer (some ⟨ab, 0, none⟩)]] w fun e w' => e = .returned (.tuple #[]) ∧ ∃ v', AnsAt ab a0 a1 a2 a3 a4 v' w' ∧ kHit.R tHit w' w.heap.size (fun _ => True) v' (hitsF ks (bl s) 0) ∧ Kp ab ab w w' := by
  have HAN := Lib.hid hA
  have hab := lt_of_heap hA
  have hga : g ≠ ab := typ_ne ht.arr hA (by decide)
  clear hA
  have HT := Lib.hid ht
  have HID := Lib.hid hid
  have HCL := Lib.hid hcl
  have hn := ht.n
  have hpos := ht.pos
  clear ht hid hcl
  go_enter Tryd.func46, Tryd.ntmps46
  go_wp2_with fail
  go_loopw [6, 7, 9, 15] (fun pv qv _ iv wr => ∃ (k q0 : Nat) (z : Int) (kk : Ks) (H : List (Int × Int)) (v : Value), k ≤ s.size ∧ iv = .int .i64 k ∧ qv = .int .i64 q0 ∧ pv = .int .i64 z ∧ Hid (AnsAt ab a0 a1 a2 a3 a4 v wr) ∧ Hid (kHit.R tHit wr w.heap.size (fun _ => True) v H) ∧ H.length ≤ k ∧ q0 < A.n ∧ Hid (Tr A (fun _ => True) q0 kk) ∧ Hid (∀ x ∈ kk, 0 ≤ x.2) ∧ Hid (hitsF ks (bl s) 0 = H ++ hitsF kk ((bl s).drop k) k) ∧ Hid (Kp ab ab w wr)) (fun _ _ _ iv _ => s.size - (intOf iv).toNat)
  case atStart => exact ⟨0, 0, 0, ks, [], _, Nat.zero_le _, rfl, rfl, rfl, HAN, Lib.hid (Kd.R_nil _ _ _ _ _), Nat.zero_le _, hpos, Lib.hid HT.out.tr, HID, Lib.hid rfl, Lib.hid (Kp.refl _ _ _)⟩
  case round =>
    obtain ⟨k, q0, z, kk, H, v, hk, rfl, rfl, rfl, HAA, HR, hHl, hq, HTR, HKI, HH, HW⟩ := hrel
    by_cases hlt : k < s.size
    · obtain ⟨ch, hchv, hdrop, hch255⟩ := byte_at s hlt
      have hch1 : 1 ≤ ch := HCL.out ch (List.mem_of_mem_drop (by rw [hdrop]; exact List.mem_cons_self ..))
      have hchz : ((ch : Int) == 0) = false := by rw [beq_eq_false_iff_ne]; omega
      obtain ⟨B, hB, hB1⟩ := HTR.out.base
      obtain ⟨hs1, hs2⟩ := HTR.out.step hB hch1
      have hhit : hitsF kk ((bl s).drop k) k = hitAt (tails ch kk) (k + 1) ++ hitsF (tails ch kk) ((bl s).drop (k + 1)) (k + 1) := by rw [hdrop]; rfl
      have hbB := (HT.out.rb q0 hq).2
      rw [hB] at hbB
      obtain ⟨nx, hnx⟩ : ∃ nx, nx = B + ch := ⟨_, rfl⟩
      have hnz : (B : Int) + (ch : Int) = (nx : Int) := by omega
      have hnw : IntKind.i64.wrap (nx : Int) = nx := IntWalk.i64_in _ (by omega)
      have HTW := Lib.hid (HT.out.kp HW.out hga)
      have hcb : wr.cell? ⟨g, q0 * 2, none⟩ = some (.int .i32 (B : Int)) := by rw [← hB]; exact HTW.out.cb hq
      rw [← hnx] at hs1 hs2
      have HHIT := Lib.hid hhit
      have HS1 := Lib.hid hs1
      have HS2 := Lib.hid hs2
      clear hdrop hB hnx hs1 hs2 hhit
      by_cases hnn : nx < A.n
      · obtain ⟨x, hx⟩ : ∃ x, x = A.c nx := ⟨_, rfl⟩
        have hcc : wr.cell? ⟨g, nx * 2 + 1, none⟩ = some (.int .i32 x) := by rw [hx]; exact HTW.out.cc hnn
        have hxr := HT.out.rc nx hnn
        rw [← hx] at hxr
        have hxr1 := hxr.1
        have hxr2 := hxr.2
        have hge : decide (A.n ≤ nx) = false := by simpa using hnn
        have HX := Lib.hid hx
        clear hx hxr
        by_cases hxq : x = (q0 : Int)
        · have hne : (x != (q0 : Int)) = false := by simp [hxq]
          have HXQ := Lib.hid hxq
          clear hxq
          have htl : tails ch kk ≠ [] := fun h => HS2.out h ⟨hnn, by rw [← HX.out]; exact HXQ.out⟩
          obtain ⟨_, _, htr2⟩ := HS1.out htl
          have hks2 : ∀ x ∈ tails ch kk, 0 ≤ x.2 := fun x hx => HKI.out (ch :: x.1, x.2) (mem_tails.1 hx)
          obtain ⟨kk2, hkk2⟩ : ∃ kk2, kk2 = tails ch kk := ⟨_, rfl⟩
          rw [← hkk2] at htr2 hks2
          have HKK := Lib.hid hkk2
          obtain ⟨B2, hB2, hB21⟩ := htr2.base
          obtain ⟨he1, he2⟩ := htr2.stop hB2
          have hcb2 : wr.cell? ⟨g, nx * 2, none⟩ = some (.int .i32 (B2 : Int)) := by rw [← hB2]; exact HTW.out.cb hnn
          have hbB2 := (HT.out.rb nx hnn).2
          rw [hB2] at hbB2
          have HTR2 := Lib.hid htr2
          have HE1 := Lib.hid he1
          have HE2 := Lib.hid he2
          have HKI2 := Lib.hid hks2
          have HHIT2 : Hid (hitsF ks (bl s) 0 = (H ++ hitAt kk2 (k + 1)) ++ hitsF kk2 ((bl s).drop (k + 1)) (k + 1)) := Lib.hid (by rw [HH.out, HHIT.out, List.append_assoc, HKK.out])
          clear htl hkk2 htr2 hB2 he1 he2 hks2
          cases hfe : firstE kk2 with
          | some id =>
            obtain ⟨hl2, hc2, hbb2⟩ := HE1.out id hfe
            have hid0 : 0 ≤ id := HKI2.out _ (firstE_some hfe)
            have hidu := HT.out.rb B2 hl2
            rw [hbb2] at hidu
            have hid1 := hidu.1
            have hcc2 : wr.cell? ⟨g, B2 * 2 + 1, none⟩ = some (.int .i32 (nx : Int)) := by rw [← hc2]; exact HTW.out.cc hl2
            have hcd2 : wr.cell? ⟨g, B2 * 2, none⟩ = some (.int .i32 (-id)) := by rw [← hbb2]; exact HTW.out.cb hl2
            have hlt2 : decide (B2 < A.n) = true := by simpa using hl2
            have hle2 : decide (-id ≤ 0) = true := by simp; omega
            have hle3 : decide (0 ≤ id) = true := by simp; omega
            have HFE : Hid (hitAt kk2 (k + 1) = [(id, ((k + 1 : Nat) : Int))]) := Lib.hid (by rw [hitAt, hfe])
            clear hfe hc2 hbb2 hidu
            go_wp2_with fail
            go_quiet (fail)
            have HW2 : Hid (Kp ab ab w (wr.drewN nq)) := Lib.hid ⟨HW.out.os, HW.out.tape, HW.out.output, HW.out.size, HW.out.block⟩
            have HC := Lib.hid (closure_any ab a0 a1 a2 a3 a4 v H id ((k : Int) + 1) w (wr.drewN nq) HAA.out (Kd.R_drewN HR.out nq) HW2.out hab (by omega))
            go_wp2_with fail
            refine HC.out.mono ?_
            rintro e w3 ⟨rfl, v3, h1, h2, h3⟩
            have HX1 := Lib.hid h1
            have HX2 : Hid (kHit.R tHit w3 w.heap.size (fun _ => True) v3 (H ++ [(id, ((k + 1 : Nat) : Int))])) := Lib.hid h2
            have HX3 := Lib.hid h3
            clear h1 h2 h3 HC
            go_wp2_with fail
            exact ⟨⟨k + 1, nx, (q0 : Int), kk2, H ++ [(id, ((k + 1 : Nat) : Int))], v3, by omega, by go_num, rfl, rfl, HX1, HX2, by simp; omega, hnn, HTR2, HKI2, Lib.hid (by rw [HHIT2.out, HFE.out]), HX3⟩, by simp [intOf]; omega⟩
          | none =>
            have HFE : Hid (hitAt kk2 (k + 1) = []) := Lib.hid (by rw [hitAt, hfe])
            have hno2 := HE2.out hfe
            by_cases hl2 : B2 < A.n
            · obtain ⟨y, hy⟩ : ∃ y, y = A.c B2 := ⟨_, rfl⟩
              have hcc2 : wr.cell? ⟨g, B2 * 2 + 1, none⟩ = some (.int .i32 y) := by rw [hy]; exact HTW.out.cc hl2
              have hyr := HT.out.rc B2 hl2
              rw [← hy] at hyr
              have hyr1 := hyr.1
              have hyr2 := hyr.2
              have hlt2 : decide (B2 < A.n) = true := by simpa using hl2
              have hyn : (y == (nx : Int)) = false := by rw [beq_eq_false_iff_ne]; intro e; exact hno2 ⟨hl2, by rw [← hy]; exact e⟩
              clear hfe hno2 hy hyr
              go_wp2_with fail
              go_quiet (fail)
              have HW2 : Hid (Kp ab ab w (wr.drewN nq)) := Lib.hid ⟨HW.out.os, HW.out.tape, HW.out.output, HW.out.size, HW.out.block⟩
              have HR2 := Lib.hid (Kd.R_drewN HR.out nq)
              have HAA2 : Hid (AnsAt ab a0 a1 a2 a3 a4 v (wr.drewN nq)) := Lib.hid HAA.out
              go_wp2_with fail
              exact ⟨⟨k + 1, nx, (q0 : Int), kk2, H, v, by omega, by go_num, rfl, rfl, HAA2, HR2, by omega, hnn, HTR2, HKI2, Lib.hid (by rw [HHIT2.out, HFE.out, List.append_nil]), HW2⟩, by simp [intOf]; omega⟩
            · have hlt2 : decide (B2 < A.n) = false := by simpa using hl2
              clear hfe hno2 hl2
              go_wp2_with fail
              go_quiet (fail)
              have HW2 : Hid (Kp ab ab w (wr.drewN nq)) := Lib.hid ⟨HW.out.os, HW.out.tape, HW.out.output, HW.out.size, HW.out.block⟩
              have HR2 := Lib.hid (Kd.R_drewN HR.out nq)
              have HAA2 : Hid (AnsAt ab a0 a1 a2 a3 a4 v (wr.drewN nq)) := Lib.hid HAA.out
              go_wp2_with fail
              exact ⟨⟨k + 1, nx, (q0 : Int), kk2, H, v, by omega, by go_num, rfl, rfl, HAA2, HR2, by omega, hnn, HTR2, HKI2, Lib.hid (by rw [HHIT2.out, HFE.out, List.append_nil]), HW2⟩, by simp [intOf]; omega⟩
        · have hne : (x != (q0 : Int)) = true := by rw [bne_iff_ne]; exact hxq
          have hno : tails ch kk = [] := Classical.byContradiction fun h => hxq (by rw [HX.out]; exact (HS1.out h).2.1)
          have HEND : Hid (hitsF ks (bl s) 0 = H) := Lib.hid (by rw [HH.out, HHIT.out, hno, hitsF_nil]; simp [hitAt, firstE])
          clear hxq hno
          go_wp2_with fail
          go_quiet (fail)
          have HW2 : Hid (Kp ab ab w (wr.drewN nq)) := Lib.hid ⟨HW.out.os, HW.out.tape, HW.out.output, HW.out.size, HW.out.block⟩
          have HR2 := Lib.hid (Kd.R_drewN HR.out nq)
          have HAA2 : Hid (AnsAt ab a0 a1 a2 a3 a4 v (wr.drewN nq)) := Lib.hid HAA.out
          go_wp2_with fail
          go_end0
          rw [HEND.out]
          exact ⟨rfl, v, HAA2.out, HR2.out, HW2.out⟩
      · have hge : decide (A.n ≤ nx) = true := by simpa using hnn
        have hno : tails ch kk = [] := Classical.byContradiction fun h => hnn (HS1.out h).1
        have HEND : Hid (hitsF ks (bl s) 0 = H) := Lib.hid (by rw [HH.out, HHIT.out, hno, hitsF_nil]; simp [hitAt, firstE])
        clear hnn hno
        go_wp2_with fail
        go_quiet (fail)
        have HW2 : Hid (Kp ab ab w (wr.drewN nq)) := Lib.hid ⟨HW.out.os, HW.out.tape, HW.out.output, HW.out.size, HW.out.block⟩
        have HR2 := Lib.hid (Kd.R_drewN HR.out nq)
        have HAA2 : Hid (AnsAt ab a0 a1 a2 a3 a4 v (wr.drewN nq)) := Lib.hid HAA.out
        go_wp2_with fail
        go_end0
        rw [HEND.out]
        exact ⟨rfl, v, HAA2.out, HR2.out, HW2.out⟩
    · obtain rfl : k = s.size := by omega
      have HEND : Hid (hitsF ks (bl s) 0 = H) := Lib.hid (by
        rw [HH.out, List.drop_of_length_le (by rw [bl_length]; exact Nat.le_refl _)]
        simp [hitsF])
      go_wp2_with fail
      go_end0
      rw [HEND.out]
      exact ⟨rfl, v, HAA.out, HR.out, HW.out⟩
end Go.Proofs.YtjifoimkjgepcaaDoor.Da
