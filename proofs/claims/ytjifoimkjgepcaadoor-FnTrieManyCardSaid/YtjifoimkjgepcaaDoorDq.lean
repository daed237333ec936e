/-
  The walk of CommonPrefixSearch.
-/
import Derived.Test.YtjifoimkjgepcaaDoorDf
set_option linter.unusedVariables false
set_option linter.unusedSimpArgs false
namespace Go.Proofs.YtjifoimkjgepcaaDoor.Da
open Go.RowKit Go.ChangeShapes Go.Proofs.YtjifoimkjgepcaaDoor.K Go.Proofs.YtjifoimkjgepcaaDoorW.PrintWords

/-- A row of numbers of the call's own. -/
abbrev OwnI (base : Nat) (v : Value) (xs : List Int) (w : World) : Prop := w.ownsRow base tInt 1 v (xs.map (Value.int .i64)).length (xs.map (Value.int .i64))
theorem OwnI.grown {base : Nat} {v v' : Value} {xs : List Int} {w w' : World} {row : Option Nat} (h : OwnI base v xs w) (hg : w.grownBy w' row) (hne : v.ownBlock = none ∨ v.ownBlock ≠ row) : OwnI base v xs w' := World.ownsRow.kept h hg hne
theorem OwnI.below {base : Nat} {v : Value} {xs : List Int} {w w' : World} (h : OwnI base v xs w) (hb : Below w.heap.size w w') : OwnI base v xs w' := own_keep h (fun k hk => hb.block k (World.ownsRow.lt h k hk).2)
/-- Two rows apart. -/
def Apt (a b : Value) : Prop := a.ownBlock = none ∨ a.ownBlock ≠ b.ownBlock
theorem Apt.symm {a b : Value} (h : Apt a b) : Apt b a := by
  unfold Apt at h ⊢
  cases hb : b.ownBlock with
  | none => exact .inl rfl
  | some k =>
    refine .inr (fun e => ?_)
    rcases h with h | h
    · rw [h] at e; cases e
    · exact h (by rw [hb, e])
theorem Apt.moved {a a' b : Value} {N : Nat} (h : Apt a b) (hat : a'.ownBlock = a.ownBlock ∨ ∃ k, a'.ownBlock = some k ∧ N ≤ k) (hb : ∀ k, b.ownBlock = some k → k < N) : Apt a' b := by
  unfold Apt at h ⊢
  rcases hat with he | ⟨k, he, hk⟩
  · rw [he]; exact h
  · refine .inr (fun e => ?_)
    have := hb k (by rw [← e, he])
    omega
set_option maxHeartbeats 1000000 in
set_option maxRecDepth 100000 in
theorem common_any (g : Nat) (A : DA) (ks : Ks) (s : ByteArray) (w : World) (ht : Trie g A ks w) (hid : ∀ x ∈ ks, 0 ≤ x.2) (hcl : ∀ a ∈ bl s, 1 ≤ a) (hs : s.size ≤ 2147483647) :
    Calls Tryd.prog 45 #[.slice (some ⟨g, 0, none⟩) A.n A.n, .string s] w fun e w' => ∃ v1 v2, e = .returned (.tuple #[v1, v2]) ∧ OwnI w.heap.size v1 ((hitsF ks (bl s) 0).map (·.1)) w' ∧ OwnI w.heap.size v2 ((hitsF ks (bl s) 0).map (·.2)) w' ∧ Below w.heap.size w w' := by
  have HT := Lib.hid ht
  have HID := Lib.hid hid
  have HCL := Lib.hid hcl
  have hn := ht.n
  have hpos := ht.pos
  clear ht hid hcl
  obtain ⟨i0, hi0, hz0, hz1, hz2⟩ := info_parts infoInt
  go_enter Tryd.func45, Tryd.ntmps45
  go_wp2_with fail
  go_loopw [4, 5, 6, 7, 9] (fun dv ov pv qv iv wr => ∃ (k q0 : Nat) (z : Int) (kk : Ks) (H : List (Int × Int)), k ≤ s.size ∧ iv = .int .i64 k ∧ qv = .int .i64 q0 ∧ pv = .int .i64 z ∧ Hid (OwnI w.heap.size dv (H.map (·.1)) wr) ∧ Hid (OwnI w.heap.size ov (H.map (·.2)) wr) ∧ Hid (Apt dv ov) ∧ H.length ≤ k ∧ q0 < A.n ∧ Hid (Tr A (fun _ => True) q0 kk) ∧ Hid (∀ x ∈ kk, 0 ≤ x.2) ∧ Hid (hitsF ks (bl s) 0 = H ++ hitsF kk ((bl s).drop k) k) ∧ Hid (Below w.heap.size w wr)) (fun _ _ _ _ iv _ => s.size - (intOf iv).toNat)
  case atStart => exact ⟨0, 0, 0, ks, [], Nat.zero_le _, rfl, rfl, rfl, Lib.hid (World.ownsRow_nil _ _ _ _), Lib.hid (World.ownsRow_nil _ _ _ _), Lib.hid (.inl rfl), Nat.zero_le _, hpos, Lib.hid HT.out.tr, HID, Lib.hid rfl, Lib.hid (Below.refl _ _)⟩
  case round =>
    obtain ⟨k, q0, z, kk, H, hk, rfl, rfl, rfl, HO1, HO2, HAP, hHl, hq, HTR, HKI, HH, HW⟩ := hrel
    by_cases hlt : k < s.size
    · obtain ⟨ch, hchv, hdrop, hch255⟩ := byte_at s hlt
      have hch1 : 1 ≤ ch := HCL.out ch (List.mem_of_mem_drop (by rw [hdrop]; exact List.mem_cons_self ..))
      have hchz : ((ch : Int) == 0) = false := by rw [beq_eq_false_iff_ne]; omega
      obtain ⟨B, hB, hB1⟩ := HTR.out.base
      obtain ⟨hs1, hs2⟩ := HTR.out.step hB hch1
      have hhit : hitsF kk ((bl s).drop k) k = hitAt (tails ch kk) (k + 1) ++ hitsF (tails ch kk) ((bl s).drop (k + 1)) (k + 1) := by rw [hdrop]; rfl
      have hbB := (HT.out.rb q0 hq).2
      rw [hB] at hbB
      obtain ⟨nx, hnx⟩ : ∃ nx, nx = B + ch := ⟨_, rfl⟩
      have hnz : (B : Int) + (ch : Int) = (nx : Int) := by omega
      have hnw : IntKind.i64.wrap (nx : Int) = nx := IntWalk.i64_in _ (by omega)
      have HTW := Lib.hid (HT.out.below HW.out)
      have hcb : wr.cell? ⟨g, q0 * 2, none⟩ = some (.int .i32 (B : Int)) := by rw [← hB]; exact HTW.out.cb hq
      rw [← hnx] at hs1 hs2
      have HHIT := Lib.hid hhit
      have HS1 := Lib.hid hs1
      have HS2 := Lib.hid hs2
      clear hdrop hB hnx hs1 hs2 hhit
      by_cases hnn : nx < A.n
      · obtain ⟨x, hx⟩ : ∃ x, x = A.c nx := ⟨_, rfl⟩
        have hcc : wr.cell? ⟨g, nx * 2 + 1, none⟩ = some (.int .i32 x) := by rw [hx]; exact HTW.out.cc hnn
        have hxr := HT.out.rc nx hnn
        rw [← hx] at hxr
        have hxr1 := hxr.1
        have hxr2 := hxr.2
        have hge : decide (A.n ≤ nx) = false := by simpa using hnn
        have HX := Lib.hid hx
        clear hx hxr
        by_cases hxq : x = (q0 : Int)
        · have hne : (x != (q0 : Int)) = false := by simp [hxq]
          have HXQ := Lib.hid hxq
          clear hxq
          have htl : tails ch kk ≠ [] := fun h => HS2.out h ⟨hnn, by rw [← HX.out]; exact HXQ.out⟩
          obtain ⟨_, _, htr2⟩ := HS1.out htl
          have hks2 : ∀ x ∈ tails ch kk, 0 ≤ x.2 := fun x hx => HKI.out (ch :: x.1, x.2) (mem_tails.1 hx)
          obtain ⟨kk2, hkk2⟩ : ∃ kk2, kk2 = tails ch kk := ⟨_, rfl⟩
          rw [← hkk2] at htr2 hks2
          have HKK := Lib.hid hkk2
          obtain ⟨B2, hB2, hB21⟩ := htr2.base
          obtain ⟨he1, he2⟩ := htr2.stop hB2
          have hcb2 : wr.cell? ⟨g, nx * 2, none⟩ = some (.int .i32 (B2 : Int)) := by rw [← hB2]; exact HTW.out.cb hnn
          have hbB2 := (HT.out.rb nx hnn).2
          rw [hB2] at hbB2
          have HTR2 := Lib.hid htr2
          have HE1 := Lib.hid he1
          have HE2 := Lib.hid he2
          have HKI2 := Lib.hid hks2
          have HHIT2 : Hid (hitsF ks (bl s) 0 = (H ++ hitAt kk2 (k + 1)) ++ hitsF kk2 ((bl s).drop (k + 1)) (k + 1)) := Lib.hid (by rw [HH.out, HHIT.out, List.append_assoc, HKK.out])
          clear htl hkk2 htr2 hB2 he1 he2 hks2
          cases hfe : firstE kk2 with
          | some id =>
            obtain ⟨hl2, hc2, hbb2⟩ := HE1.out id hfe
            have hid0 : 0 ≤ id := HKI2.out _ (firstE_some hfe)
            have hidu := HT.out.rb B2 hl2
            rw [hbb2] at hidu
            have hid1 := hidu.1
            have hcc2 : wr.cell? ⟨g, B2 * 2 + 1, none⟩ = some (.int .i32 (nx : Int)) := by rw [← hc2]; exact HTW.out.cc hl2
            have hcd2 : wr.cell? ⟨g, B2 * 2, none⟩ = some (.int .i32 (-id)) := by rw [← hbb2]; exact HTW.out.cb hl2
            have hlt2 : decide (B2 < A.n) = true := by simpa using hl2
            have hle2 : decide (-id ≤ 0) = true := by simp; omega
            have hle3 : decide (0 ≤ id) = true := by simp; omega
            have HFE : Hid (hitAt kk2 (k + 1) = [(id, ((k + 1 : Nat) : Int))]) := Lib.hid (by rw [hitAt, hfe])
            clear hfe hc2 hbb2 hidu
            go_wp2_with fail
            go_quiet (fail)
            have HW2 := Lib.hid (pw_below_drewN HW.out nq)
            have HO12 : Hid (OwnI w.heap.size u4 (H.map (·.1)) (wr.drewN nq)) := Lib.hid (HO1.out.below (pw_below_drewN (Below.refl _ _) nq))
            have HO22 : Hid (OwnI w.heap.size u5 (H.map (·.2)) (wr.drewN nq)) := Lib.hid (HO2.out.below (pw_below_drewN (Below.refl _ _) nq))
            go_upto_region 12 with fail
            have hcd3 : (wr.drewN nq).cell? ⟨g, B2 * 2, none⟩ = some (.int .i32 (-id)) := hcd2
            generalize wr.drewN nq = w2 at HW2 HO12 HO22 hcd3 ⊢
            clear hcd2 hcc2 hcb2 hcc hcb
            go_upto_region 13 with (at_builtin; refine app1 (w0 := w) w.heap.size rfl _ _ 23 tInt (.int .i64 0) 8 rfl Tryd.underlying23 (by kernel_rfl) rfl (by decide) _ ((H.map (·.1)).map (Value.int .i64)) (.int .i64 id) w2.heap.size rfl rfl (cell_new0 _ _ _) rfl (HO12.out.alloc _) (HW2.out.alloc HW2.out.size _) (by have := HW2.out.size; simp; omega) (by simp; omega) ?_)
            intro v1 w3 hown1 hb3 hgr1 hat1
            have HX1 : Hid (OwnI w.heap.size v1 ((H ++ [(id, ((k + 1 : Nat) : Int))]).map (·.1)) w3) := Lib.hid (by unfold OwnI; simpa using hown1)
            have HX2 : Hid (OwnI w.heap.size u5 (H.map (·.2)) w3) := Lib.hid ((World.ownsRow.alloc HO22.out _).kept hgr1 HAP.out.symm)
            have HX3 := Lib.hid hb3
            have HX4 : Hid (Apt v1 u5) := Lib.hid (HAP.out.moved hat1 (fun j hj => by have := (World.ownsRow.lt HO22.out j hj).2; simp; omega))
            clear hown1 hb3 hgr1 hat1 hcd3
            go_wp2_with (at_builtin; refine app1 (w0 := w) w.heap.size rfl _ _ 23 tInt (.int .i64 0) 8 rfl Tryd.underlying23 (by kernel_rfl) rfl (by decide) _ ((H.map (·.2)).map (Value.int .i64)) (.int .i64 ((k : Int) + 1)) w3.heap.size rfl rfl (cell_new0 _ _ _) rfl (HX2.out.alloc _) (HX3.out.alloc HX3.out.size _) (by have := HX3.out.size; simp; omega) (by simp; omega) ?_)
            intro v2 w4 hown2 hb4 hgr2 hat2
            have HY2 : Hid (OwnI w.heap.size v2 ((H ++ [(id, ((k + 1 : Nat) : Int))]).map (·.2)) w4) := Lib.hid (by unfold OwnI; simpa using hown2)
            have HY1 : Hid (OwnI w.heap.size v1 ((H ++ [(id, ((k + 1 : Nat) : Int))]).map (·.1)) w4) := Lib.hid ((World.ownsRow.alloc HX1.out _).kept hgr2 HX4.out)
            have HY3 := Lib.hid hb4
            have HY4 : Hid (Apt v1 v2) := Lib.hid (HX4.out.symm.moved hat2 (fun j hj => by have := (World.ownsRow.lt HX1.out j hj).2; simp; omega)).symm
            clear hown2 hb4 hgr2 hat2
            go_wp2_with fail
            exact ⟨⟨k + 1, nx, (q0 : Int), kk2, H ++ [(id, ((k + 1 : Nat) : Int))], by omega, by go_num, rfl, rfl, HY1, HY2, HY4, by simp; omega, hnn, HTR2, HKI2, Lib.hid (by rw [HHIT2.out, HFE.out]), HY3⟩, by simp [intOf]; omega⟩
          | none =>
            have HFE : Hid (hitAt kk2 (k + 1) = []) := Lib.hid (by rw [hitAt, hfe])
            have hno2 := HE2.out hfe
            by_cases hl2 : B2 < A.n
            · obtain ⟨y, hy⟩ : ∃ y, y = A.c B2 := ⟨_, rfl⟩
              have hcc2 : wr.cell? ⟨g, B2 * 2 + 1, none⟩ = some (.int .i32 y) := by rw [hy]; exact HTW.out.cc hl2
              have hyr := HT.out.rc B2 hl2
              rw [← hy] at hyr
              have hyr1 := hyr.1
              have hyr2 := hyr.2
              have hlt2 : decide (B2 < A.n) = true := by simpa using hl2
              have hyn : (y == (nx : Int)) = false := by rw [beq_eq_false_iff_ne]; intro e; exact hno2 ⟨hl2, by rw [← hy]; exact e⟩
              clear hfe hno2 hy hyr
              go_wp2_with fail
              go_quiet (fail)
              have HW2 := Lib.hid (pw_below_drewN HW.out nq)
              have HO12 : Hid (OwnI w.heap.size u4 (H.map (·.1)) (wr.drewN nq)) := Lib.hid (HO1.out.below (pw_below_drewN (Below.refl _ _) nq))
              have HO22 : Hid (OwnI w.heap.size u5 (H.map (·.2)) (wr.drewN nq)) := Lib.hid (HO2.out.below (pw_below_drewN (Below.refl _ _) nq))
              go_wp2_with fail
              exact ⟨⟨k + 1, nx, (q0 : Int), kk2, H, by omega, by go_num, rfl, rfl, HO12, HO22, HAP, by omega, hnn, HTR2, HKI2, Lib.hid (by rw [HHIT2.out, HFE.out, List.append_nil]), HW2⟩, by simp [intOf]; omega⟩
            · have hlt2 : decide (B2 < A.n) = false := by simpa using hl2
              clear hfe hno2 hl2
              go_wp2_with fail
              go_quiet (fail)
              have HW2 := Lib.hid (pw_below_drewN HW.out nq)
              have HO12 : Hid (OwnI w.heap.size u4 (H.map (·.1)) (wr.drewN nq)) := Lib.hid (HO1.out.below (pw_below_drewN (Below.refl _ _) nq))
              have HO22 : Hid (OwnI w.heap.size u5 (H.map (·.2)) (wr.drewN nq)) := Lib.hid (HO2.out.below (pw_below_drewN (Below.refl _ _) nq))
              go_wp2_with fail
              exact ⟨⟨k + 1, nx, (q0 : Int), kk2, H, by omega, by go_num, rfl, rfl, HO12, HO22, HAP, by omega, hnn, HTR2, HKI2, Lib.hid (by rw [HHIT2.out, HFE.out, List.append_nil]), HW2⟩, by simp [intOf]; omega⟩
        · have hne : (x != (q0 : Int)) = true := by rw [bne_iff_ne]; exact hxq
          have hno : tails ch kk = [] := Classical.byContradiction fun h => hxq (by rw [HX.out]; exact (HS1.out h).2.1)
          have HEND : Hid (hitsF ks (bl s) 0 = H) := Lib.hid (by rw [HH.out, HHIT.out, hno, hitsF_nil]; simp [hitAt, firstE])
          clear hxq hno
          go_wp2_with fail
          go_quiet (fail)
          have HW2 := Lib.hid (pw_below_drewN HW.out nq)
          have HO12 : Hid (OwnI w.heap.size u4 (H.map (·.1)) (wr.drewN nq)) := Lib.hid (HO1.out.below (pw_below_drewN (Below.refl _ _) nq))
          have HO22 : Hid (OwnI w.heap.size u5 (H.map (·.2)) (wr.drewN nq)) := Lib.hid (HO2.out.below (pw_below_drewN (Below.refl _ _) nq))
          go_wp2_with fail
          go_ret2
          rw [HEND.out]
          exact ⟨_, _, rfl, HO12.out, HO22.out, HW2.out⟩
      · have hge : decide (A.n ≤ nx) = true := by simpa using hnn
        have hno : tails ch kk = [] := Classical.byContradiction fun h => hnn (HS1.out h).1
        have HEND : Hid (hitsF ks (bl s) 0 = H) := Lib.hid (by rw [HH.out, HHIT.out, hno, hitsF_nil]; simp [hitAt, firstE])
        clear hnn hno
        go_wp2_with fail
        go_quiet (fail)
        have HW2 := Lib.hid (pw_below_drewN HW.out nq)
        have HO12 : Hid (OwnI w.heap.size u4 (H.map (·.1)) (wr.drewN nq)) := Lib.hid (HO1.out.below (pw_below_drewN (Below.refl _ _) nq))
        have HO22 : Hid (OwnI w.heap.size u5 (H.map (·.2)) (wr.drewN nq)) := Lib.hid (HO2.out.below (pw_below_drewN (Below.refl _ _) nq))
        go_wp2_with fail
        go_ret2
        rw [HEND.out]
        exact ⟨_, _, rfl, HO12.out, HO22.out, HW2.out⟩
    · obtain rfl : k = s.size := by omega
      have HEND : Hid (hitsF ks (bl s) 0 = H) := Lib.hid (by
        rw [HH.out, List.drop_of_length_le (by rw [bl_length]; exact Nat.le_refl _)]
        simp [hitsF])
      go_wp2_with fail
      go_ret2
      rw [HEND.out]
      exact ⟨_, _, rfl, HO1.out, HO2.out, HW.out⟩
end Go.Proofs.YtjifoimkjgepcaaDoor.Da
