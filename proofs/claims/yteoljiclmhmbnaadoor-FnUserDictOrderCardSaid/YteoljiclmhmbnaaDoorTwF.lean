/-
  The walks of the callback of an index, of its Search beside it: the walk of indexAsk.
-/
import Derived.Test.YteoljiclmhmbnaaDoorTwE
import Derived.Test.YteoljiclmhmbnaaDoorTwD
import Derived.Lib.JoinLaws
import Derived.Test.YteoljiclmhmbnaaDoorTwB
import Derived.Lib.SmallJoins
import Derived.Sort.Walk0
set_option linter.unusedVariables false
set_option linter.unusedSimpArgs false
namespace Go.Proofs.YteoljiclmhmbnaaDoor.Da
open Go.RowKit Go.ChangeShapes Go.Proofs.YteoljiclmhmbnaaDoor.K Go.Proofs.YteoljiclmhmbnaaDoorW.PrintWords Go.Maps

set_option maxHeartbeats 1000000 in
set_option maxRecDepth 100000 in
theorem ixcallback_any (bi bc bm ab : Nat) (cnt : Nat → Nat) (a0 a1 a2 : Value) (g : Nat) (A : DA) (ks : Ks) (s : ByteArray) (w : World) (hcp : Capt bi bc g bm ab A cnt w) (ht : Trie g A ks w) (hid : ∀ x ∈ ks, Okc cnt x.2) (hcl : ∀ a ∈ bl s, 1 ≤ a) (hs : s.size ≤ 10000000) (hA : IAt ab a0 a1 a2 (.slice none 0 0) w) :
    Calls Tryd.prog 86 #[.slice (some ⟨g, 0, none⟩) A.n A.n, .string s, .func (.func 87) #[] #[.pointer (some ⟨bi, 0, none⟩), .pointer (some ⟨bc, 0, none⟩)]] w fun e w' => e = .returned (.tuple #[]) ∧ ∃ v', IAt ab a0 a1 a2 v' w' ∧ kHit.R tHit w' w.heap.size (fun _ => True) v' (callsF cnt (hitsF ks (bl s) 0)) ∧ Kp ab ab w w' := by
  have HAN := Lib.hid hA
  have hab := lt_of_heap hA
  have hga : g ≠ ab := typ_ne ht.arr hA (by decide)
  have HCP := Lib.hid hcp
  clear hA
  have HT := Lib.hid ht
  have HID := Lib.hid hid
  have HCL := Lib.hid hcl
  have hn := ht.n
  have hpos := ht.pos
  clear ht hid hcl hcp
  go_enter Tryd.func86, Tryd.ntmps86
  go_wp2_with fail
  go_loopw [6, 7, 9, 15] (fun pv qv _ iv wr => ∃ (k q0 : Nat) (z : Int) (kk : Ks) (H : List (Int × Int)) (v : Value), k ≤ s.size ∧ iv = .int .i64 k ∧ qv = .int .i64 q0 ∧ pv = .int .i64 z ∧ Hid (IAt ab a0 a1 a2 v wr) ∧ Hid (kHit.R tHit wr w.heap.size (fun _ => True) v (callsF cnt H)) ∧ (callsF cnt H).length ≤ k * 100001 ∧ q0 < A.n ∧ Hid (Tr A (fun _ => True) q0 kk) ∧ Hid (∀ x ∈ kk, Okc cnt x.2) ∧ Hid (hitsF ks (bl s) 0 = H ++ hitsF kk ((bl s).drop k) k) ∧ Hid (Kp ab ab w wr)) (fun _ _ _ iv _ => s.size - (intOf iv).toNat)
  case atStart => exact ⟨0, 0, 0, ks, [], _, Nat.zero_le _, rfl, rfl, rfl, HAN, Lib.hid (Kd.R_nil _ _ _ _ _), Nat.zero_le _, hpos, Lib.hid HT.out.tr, HID, Lib.hid rfl, Lib.hid (Kp.refl _ _ _)⟩
  case round =>
    obtain ⟨k, q0, z, kk, H, v, hk, rfl, rfl, rfl, HAA, HR, hHl, hq, HTR, HKI, HH, HW⟩ := hrel
    by_cases hlt : k < s.size
    · obtain ⟨ch, hchv, hdrop, hch255⟩ := byte_at s hlt
      have hch1 : 1 ≤ ch := HCL.out ch (List.mem_of_mem_drop (by rw [hdrop]; exact List.mem_cons_self ..))
      have hchz : ((ch : Int) == 0) = false := by rw [beq_eq_false_iff_ne]; omega
      obtain ⟨B, hB, hB1⟩ := HTR.out.base
      obtain ⟨hs1, hs2⟩ := HTR.out.step hB hch1
      have hhit : hitsF kk ((bl s).drop k) k = hitAt (tails ch kk) (k + 1) ++ hitsF (tails ch kk) ((bl s).drop (k + 1)) (k + 1) := by rw [hdrop]; rfl
      have hbB := (HT.out.rb q0 hq).2
      rw [hB] at hbB
      obtain ⟨nx, hnx⟩ : ∃ nx, nx = B + ch := ⟨_, rfl⟩
      have hnz : (B : Int) + (ch : Int) = (nx : Int) := by omega
      have hnw : IntKind.i64.wrap (nx : Int) = nx := IntWalk.i64_in _ (by omega)
      have HTW := Lib.hid (HT.out.kp HW.out hga)
      have hcb : wr.cell? ⟨g, q0 * 2, none⟩ = some (.int .i32 (B : Int)) := by rw [← hB]; exact HTW.out.cb hq
      rw [← hnx] at hs1 hs2
      have HHIT := Lib.hid hhit
      have HS1 := Lib.hid hs1
      have HS2 := Lib.hid hs2
      clear hdrop hB hnx hs1 hs2 hhit
      by_cases hnn : nx < A.n
      · obtain ⟨x, hx⟩ : ∃ x, x = A.c nx := ⟨_, rfl⟩
        have hcc : wr.cell? ⟨g, nx * 2 + 1, none⟩ = some (.int .i32 x) := by rw [hx]; exact HTW.out.cc hnn
        have hxr := HT.out.rc nx hnn
        rw [← hx] at hxr
        have hxr1 := hxr.1
        have hxr2 := hxr.2
        have hge : decide (A.n ≤ nx) = false := by simpa using hnn
        have HX := Lib.hid hx
        clear hx hxr
        by_cases hxq : x = (q0 : Int)
        · have hne : (x != (q0 : Int)) = false := by simp [hxq]
          have HXQ := Lib.hid hxq
          clear hxq
          have htl : tails ch kk ≠ [] := fun h => HS2.out h ⟨hnn, by rw [← HX.out]; exact HXQ.out⟩
          obtain ⟨_, _, htr2⟩ := HS1.out htl
          have hks2 : ∀ x ∈ tails ch kk, Okc cnt x.2 := fun x hx => HKI.out (ch :: x.1, x.2) (mem_tails.1 hx)
          obtain ⟨kk2, hkk2⟩ : ∃ kk2, kk2 = tails ch kk := ⟨_, rfl⟩
          rw [← hkk2] at htr2 hks2
          have HKK := Lib.hid hkk2
          obtain ⟨B2, hB2, hB21⟩ := htr2.base
          obtain ⟨he1, he2⟩ := htr2.stop hB2
          have hcb2 : wr.cell? ⟨g, nx * 2, none⟩ = some (.int .i32 (B2 : Int)) := by rw [← hB2]; exact HTW.out.cb hnn
          have hbB2 := (HT.out.rb nx hnn).2
          rw [hB2] at hbB2
          have HTR2 := Lib.hid htr2
          have HE1 := Lib.hid he1
          have HE2 := Lib.hid he2
          have HKI2 := Lib.hid hks2
          have HHIT2 : Hid (hitsF ks (bl s) 0 = (H ++ hitAt kk2 (k + 1)) ++ hitsF kk2 ((bl s).drop (k + 1)) (k + 1)) := Lib.hid (by rw [HH.out, HHIT.out, List.append_assoc, HKK.out])
          clear htl hkk2 htr2 hB2 he1 he2 hks2
          cases hfe : firstE kk2 with
          | some id =>
            obtain ⟨hl2, hc2, hbb2⟩ := HE1.out id hfe
            have hidc : Okc cnt id := HKI2.out _ (firstE_some hfe)
            have hid0 : 0 ≤ id := by obtain ⟨j, rfl, _⟩ := hidc; omega
            have hcn : cnt id.toNat ≤ 100000 := by obtain ⟨j, rfl, _, h⟩ := hidc; simpa using h
            have HIDC := Lib.hid hidc
            clear hidc
            have hidu := HT.out.rb B2 hl2
            rw [hbb2] at hidu
            have hid1 := hidu.1
            have hcc2 : wr.cell? ⟨g, B2 * 2 + 1, none⟩ = some (.int .i32 (nx : Int)) := by rw [← hc2]; exact HTW.out.cc hl2
            have hcd2 : wr.cell? ⟨g, B2 * 2, none⟩ = some (.int .i32 (-id)) := by rw [← hbb2]; exact HTW.out.cb hl2
            have hlt2 : decide (B2 < A.n) = true := by simpa using hl2
            have hle2 : decide (-id ≤ 0) = true := by simp; omega
            have hle3 : decide (0 ≤ id) = true := by simp; omega
            have HFE : Hid (hitAt kk2 (k + 1) = [(id, ((k + 1 : Nat) : Int))]) := Lib.hid (by rw [hitAt, hfe])
            clear hfe hc2 hbb2 hidu
            go_wp2_with fail
            go_quiet (fail)
            have HW2 : Hid (Kp ab ab w (wr.drewN nq)) := Lib.hid ⟨HW.out.os, HW.out.tape, HW.out.output, HW.out.size, HW.out.block⟩
            have HC := Lib.hid (ixclosure_any bi bc g bm ab A cnt a0 a1 a2 v (callsF cnt H) id ((k : Int) + 1) w (wr.drewN nq) HCP.out HAA.out (Kd.R_drewN HR.out nq) HW2.out (by omega) HIDC.out)
            go_wp2_with fail
            refine HC.out.mono ?_
            rintro e w3 ⟨rfl, v3, h1, h2, h3⟩
            have HX1 := Lib.hid h1
            have HX2 : Hid (kHit.R tHit w3 w.heap.size (fun _ => True) v3 (callsF cnt (H ++ [(id, ((k + 1 : Nat) : Int))]))) := Lib.hid (by rw [callsF_append]; simpa [callsF] using h2)
            have HX3 := Lib.hid h3
            clear h1 h2 h3 HC
            go_wp2_with fail
            exact ⟨⟨k + 1, nx, (q0 : Int), kk2, H ++ [(id, ((k + 1 : Nat) : Int))], v3, by omega, by go_num, rfl, rfl, HX1, HX2, by rw [callsF_append, List.length_append, show (callsF cnt [(id, ((k + 1 : Nat) : Int))]).length = cnt id.toNat + 1 by simp [callsF, rng_length]]; omega, hnn, HTR2, HKI2, Lib.hid (by rw [HHIT2.out, HFE.out]), HX3⟩, by simp [intOf]; omega⟩
          | none =>
            have HFE : Hid (hitAt kk2 (k + 1) = []) := Lib.hid (by rw [hitAt, hfe])
            have hno2 := HE2.out hfe
            by_cases hl2 : B2 < A.n
            · obtain ⟨y, hy⟩ : ∃ y, y = A.c B2 := ⟨_, rfl⟩
              have hcc2 : wr.cell? ⟨g, B2 * 2 + 1, none⟩ = some (.int .i32 y) := by rw [hy]; exact HTW.out.cc hl2
              have hyr := HT.out.rc B2 hl2
              rw [← hy] at hyr
              have hyr1 := hyr.1
              have hyr2 := hyr.2
              have hlt2 : decide (B2 < A.n) = true := by simpa using hl2
              have hyn : (y == (nx : Int)) = false := by rw [beq_eq_false_iff_ne]; intro e; exact hno2 ⟨hl2, by rw [← hy]; exact e⟩
              clear hfe hno2 hy hyr
              go_wp2_with fail
              go_quiet (fail)
              have HW2 : Hid (Kp ab ab w (wr.drewN nq)) := Lib.hid ⟨HW.out.os, HW.out.tape, HW.out.output, HW.out.size, HW.out.block⟩
              have HR2 := Lib.hid (Kd.R_drewN HR.out nq)
              have HAA2 : Hid (IAt ab a0 a1 a2 v (wr.drewN nq)) := Lib.hid HAA.out
              go_wp2_with fail
              exact ⟨⟨k + 1, nx, (q0 : Int), kk2, H, v, by omega, by go_num, rfl, rfl, HAA2, HR2, Nat.le_trans hHl (Nat.mul_le_mul_right _ (Nat.le_succ k)), hnn, HTR2, HKI2, Lib.hid (by rw [HHIT2.out, HFE.out, List.append_nil]), HW2⟩, by simp [intOf]; omega⟩
            · have hlt2 : decide (B2 < A.n) = false := by simpa using hl2
              clear hfe hno2 hl2
              go_wp2_with fail
              go_quiet (fail)
              have HW2 : Hid (Kp ab ab w (wr.drewN nq)) := Lib.hid ⟨HW.out.os, HW.out.tape, HW.out.output, HW.out.size, HW.out.block⟩
              have HR2 := Lib.hid (Kd.R_drewN HR.out nq)
              have HAA2 : Hid (IAt ab a0 a1 a2 v (wr.drewN nq)) := Lib.hid HAA.out
              go_wp2_with fail
              exact ⟨⟨k + 1, nx, (q0 : Int), kk2, H, v, by omega, by go_num, rfl, rfl, HAA2, HR2, Nat.le_trans hHl (Nat.mul_le_mul_right _ (Nat.le_succ k)), hnn, HTR2, HKI2, Lib.hid (by rw [HHIT2.out, HFE.out, List.append_nil]), HW2⟩, by simp [intOf]; omega⟩
        · have hne : (x != (q0 : Int)) = true := by rw [bne_iff_ne]; exact hxq
          have hno : tails ch kk = [] := Classical.byContradiction fun h => hxq (by rw [HX.out]; exact (HS1.out h).2.1)
          have HEND : Hid (hitsF ks (bl s) 0 = H) := Lib.hid (by rw [HH.out, HHIT.out, hno, hitsF_nil]; simp [hitAt, firstE])
          clear hxq hno
          go_wp2_with fail
          go_quiet (fail)
          have HW2 : Hid (Kp ab ab w (wr.drewN nq)) := Lib.hid ⟨HW.out.os, HW.out.tape, HW.out.output, HW.out.size, HW.out.block⟩
          have HR2 := Lib.hid (Kd.R_drewN HR.out nq)
          have HAA2 : Hid (IAt ab a0 a1 a2 v (wr.drewN nq)) := Lib.hid HAA.out
          go_wp2_with fail
          go_end0
          rw [HEND.out]
          exact ⟨rfl, v, HAA2.out, HR2.out, HW2.out⟩
      · have hge : decide (A.n ≤ nx) = true := by simpa using hnn
        have hno : tails ch kk = [] := Classical.byContradiction fun h => hnn (HS1.out h).1
        have HEND : Hid (hitsF ks (bl s) 0 = H) := Lib.hid (by rw [HH.out, HHIT.out, hno, hitsF_nil]; simp [hitAt, firstE])
        clear hnn hno
        go_wp2_with fail
        go_quiet (fail)
        have HW2 : Hid (Kp ab ab w (wr.drewN nq)) := Lib.hid ⟨HW.out.os, HW.out.tape, HW.out.output, HW.out.size, HW.out.block⟩
        have HR2 := Lib.hid (Kd.R_drewN HR.out nq)
        have HAA2 : Hid (IAt ab a0 a1 a2 v (wr.drewN nq)) := Lib.hid HAA.out
        go_wp2_with fail
        go_end0
        rw [HEND.out]
        exact ⟨rfl, v, HAA2.out, HR2.out, HW2.out⟩
    · obtain rfl : k = s.size := by omega
      have HEND : Hid (hitsF ks (bl s) 0 = H) := Lib.hid (by
        rw [HH.out, List.drop_of_length_le (by rw [bl_length]; exact Nat.le_refl _)]
        simp [hitsF])
      go_wp2_with fail
      go_end0
      rw [HEND.out]
      exact ⟨rfl, v, HAA.out, HR.out, HW.out⟩
set_option maxHeartbeats 1000000 in
set_option maxRecDepth 100000 in
theorem ixCall_any (bm ab : Nat) (cnt : Nat → Nat) (a0 a1 a2 : Value) (g : Nat) (A : DA) (ks : Ks) (s : ByteArray) (w : World) (hd : Dup bm cnt w) (ht : Trie g A ks w) (hid : ∀ x ∈ ks, Okc cnt x.2) (hcl : ∀ a ∈ bl s, 1 ≤ a) (hs : s.size ≤ 10000000) (hA : IAt ab a0 a1 a2 (.slice none 0 0) w) (hm : bm ≠ ab) :
    Calls Tryd.prog 70 #[.agg #[.slice (some ⟨g, 0, none⟩) A.n A.n, .map (some bm)], .string s, .func (.func 71) #[] #[.pointer (some ⟨ab, 0, none⟩)]] w fun e w' => e = .returned (.tuple #[]) ∧ ∃ v', IAt ab a0 a1 a2 v' w' ∧ kHit.R tHit w' w.heap.size (fun _ => True) v' (callsF cnt (hitsF ks (bl s) 0)) ∧ Kp ab ab w w' := by
  have hmf : ∀ (fn : Fn) (first cap : Array Value) (w : World), (Instr.makeFunc fn first cap).run Tryd.prog w = .ok (.func fn first cap) w := fun _ _ _ _ => rfl
  have hab := lt_of_heap hA
  obtain ⟨bi, hbi⟩ : ∃ bi, bi = w.heap.size := ⟨_, rfl⟩
  obtain ⟨w1, hw1⟩ : ∃ w1, w1 = (w.alloc (.cells #[.slice (some ⟨g, 0, none⟩) A.n A.n, .map (some bm)] tIdx)).alloc (.cells #[.func (.func 71) #[] #[.pointer (some ⟨ab, 0, none⟩)]] tFn) := ⟨_, rfl⟩
  have hb1 : Below w.heap.size w w1 := by rw [hw1]; exact ((Below.refl _ _).alloc (Nat.le_refl _) _).alloc (by simp) _
  have hx1 : w1.heap[bi]? = some (.cells #[.slice (some ⟨g, 0, none⟩) A.n A.n, .map (some bm)] tIdx (0, 0)) := by rw [hw1, hbi]; exact heap_old (heap_new _ _) _
  have hx2 : w1.heap[bi + 1]? = some (.cells #[.func (.func 71) #[] #[.pointer (some ⟨ab, 0, none⟩)]] tFn (0, 0)) := by
    have := heap_new (w.alloc (.cells #[.slice (some ⟨g, 0, none⟩) A.n A.n, .map (some bm)] tIdx)) (.cells #[.func (.func 71) #[] #[.pointer (some ⟨ab, 0, none⟩)]] tFn)
    rw [size_alloc, ← hw1, ← hbi] at this
    exact this
  have hA1 : IAt ab a0 a1 a2 (.slice none 0 0) w1 := (hb1.block ab hab).trans hA
  have HC := Lib.hid (ixcallback_any bi (bi + 1) bm ab cnt a0 a1 a2 g A ks s w1 ⟨hx1, hx2, hd.below hb1, by omega, by omega, hm, lt_of_heap hA1⟩ (ht.below hb1) hid hcl hs hA1)
  have hc0 : w1.cell? ⟨bi, 0, none⟩ = some (.slice (some ⟨g, 0, none⟩) A.n A.n) := by rw [cell_of_heap hx1]; rfl
  have HB1 := Lib.hid hb1
  clear hd ht hid hcl hA hx1 hx2 hA1 hb1
  go_enter Tryd.func70, Tryd.ntmps70
  go_upto_region 1 with fail
  rw [← hw1, ← hbi]
  have HBI := Lib.hid hbi
  clear hw1 hbi
  go_wp2_with fail
  refine HC.out.mono ?_
  rintro e w2 ⟨rfl, v', h1, h2, h3⟩
  have HX1 := Lib.hid h1
  have HX2 := Lib.hid (Kd.R_lower h2 HB1.out.size)
  have HX3 : Hid (Kp ab ab w w2) := Lib.hid ((Kp.of_below HB1.out).trans h3 (.inl rfl))
  clear h1 h2 h3 HC
  go_wp2_with fail
  go_end0
  exact ⟨rfl, v', HX1.out, HX2.out, HX3.out⟩
end Go.Proofs.YteoljiclmhmbnaaDoor.Da

/-
  The walk of impl.indexAsk.
-/
set_option linter.unusedVariables false
set_option linter.unusedSimpArgs false
namespace Go.Proofs.YteoljiclmhmbnaaDoor.Da
open Go.RowKit Go.ChangeShapes Go.Proofs.YteoljiclmhmbnaaDoor.K Go.Proofs.YteoljiclmhmbnaaDoorW.PrintWords Go.Maps

abbrev tIL : Nat := 25
def kIAns : Kd IAns := Kd.pair (Kd.slice tInt (Kd.int .i64)) (Kd.pair (Kd.slice tInt (Kd.int .i64)) (Kd.pair (Kd.slice tSl kRows) (Kd.slice tHit kHit)))
theorem ians_M {w : World} {base : Nat} {ok : Nat → Prop} {a : IAns} {v0 v1 v2 v3 : Value} (h0 : (Kd.int .i64).R tInt w base ok v0 a.1) (h1 : (Kd.int .i64).R tInt w base ok v1 a.2.1) (h2 : kRows.R tSl w base ok v2 a.2.2.1) (h3 : kHit.R tHit w base ok v3 a.2.2.2) :
    kIAns.M w base ok a [v0, v1, v2, v3] :=
  ⟨[v0], [v1, v2, v3], rfl, ⟨v0, rfl, h0⟩, [v1], [v2, v3], rfl, ⟨v1, rfl, h1⟩, [v2], [v3], rfl, ⟨v2, rfl, h2⟩, ⟨v3, rfl, h3⟩⟩
theorem infoIAns : (Tryd.prog.info? tIAns).map (fun i => (i.zero, i.size, i.bytes)) = some (some (.agg #[.slice none 0 0, .slice none 0 0, .slice none 0 0, .slice none 0 0]), kIAns.sz, 96) := by
  show _ = some (some (Value.agg #[.slice none 0 0, .slice none 0 0, .slice none 0 0, .slice none 0 0]), 4, 96)
  kernel_rfl
theorem IAt.set {ab : Nat} {a0 a1 a2 v : Value} {w : World} (h : IAt ab a0 a1 a2 v w) (u : Value) : IAt ab u a1 a2 v (w.setCell ⟨ab, 0, none⟩ u) := by
  unfold IAt
  rw [heap_set h 0 u]
  rfl
theorem IAt.set12 {ab : Nat} {a0 a1 a2 v : Value} {w : World} (h : IAt ab a0 a1 a2 v w) (u u' : Value) : IAt ab a0 u u' v ((w.setCell ⟨ab, 1, none⟩ u).setCell ⟨ab, 2, none⟩ u') := by
  unfold IAt
  rw [heap_set (heap_set h 1 u) 2 u']
  rfl
theorem IAt.c {ab : Nat} {a0 a1 a2 v : Value} {w : World} (h : IAt ab a0 a1 a2 v w) : w.cell? ⟨ab, 0, none⟩ = some a0 ∧ w.cell? ⟨ab, 1, none⟩ = some a1 ∧ w.cell? ⟨ab, 2, none⟩ = some a2 ∧ w.cell? ⟨ab, 3, none⟩ = some v :=
  ⟨by rw [cell_of_heap h]; rfl, by rw [cell_of_heap h]; rfl, by rw [cell_of_heap h]; rfl, by rw [cell_of_heap h]; rfl⟩
theorem IAt.f {ab : Nat} {a0 a1 a2 v : Value} {w : World} (h : IAt ab a0 a1 a2 v w) (j : Nat) : w.frozen? ⟨ab, j, none⟩ = false := frozen_of_heap h j
theorem IAt.below {ab : Nat} {a0 a1 a2 v : Value} {w w' : World} (h : IAt ab a0 a1 a2 v w) (hb : Below w.heap.size w w') : IAt ab a0 a1 a2 v w' := (hb.block ab (lt_of_heap h)).trans h
theorem find_okc {cnt : Nat → Nat} {ks : Ks} (h : ∀ x ∈ ks, Okc cnt x.2) (h0 : Okc cnt 0) (s : List Nat) : Okc cnt (findF ks s).1 := by
  unfold findF
  split
  · exact h0
  · split
    · exact h0
    · cases hf : firstE (walkK s ks) with
      | none => exact h0
      | some id => exact h _ (mem_walkK.1 (firstE_some hf))
theorem iask_idle (p q : Addr) (w : World) :
    CallsD Tryd.prog 67 #[.pointer (some p), .pointer (some q)] .returning w fun e u' w' => e = .returned (.tuple #[]) ∧ u' = .returning ∧ w' = w := by
  refine callsD_of_wpS Tryd.func67 rfl fun c₀ cs hu => ?_
  apply wpS_seq
  apply wpS_region
  simp [wpOpsS, go_sem, recoverD, hu, Tryd.ntmps67, Exit.thenS]
  refine wpS_cond (t := false) (by simp [Act.eval, Array.replicate]) ?_
  simp only [Bool.false_eq_true, if_false]
  refine wpS_of_wp (wp_skip ?_)
  cases c₀
  simp_all [bodyPostS, results, Tryd.results67]
/-- What an index of these keys answers. -/
def ansK (cnt : Nat → Nat) (ks : Ks) (s : ByteArray) : IAns := (idsF cnt (findF ks (bl s)), (hitsF ks (bl s) 0).map (·.2), listsF cnt (hitsF ks (bl s) 0), callsF cnt (hitsF ks (bl s) 0))

set_option maxHeartbeats 2000000 in
set_option maxRecDepth 100000 in
theorem indexAsk_any (g bm : Nat) (A : DA) (cnt : Nat → Nat) (ks : Ks) (Ai : Option Addr) (ci : Nat) (inputs : List ByteArray) (w : World) (ht : Trie g A ks w) (hd : Dup bm cnt w) (hid : ∀ x ∈ ks, Okc cnt x.2) (h0 : Okc cnt 0) (hC : Kd.string.C w Ai inputs.length inputs)
    (hcl : ∀ s ∈ inputs, (∀ a ∈ bl s, 1 ≤ a) ∧ s.size ≤ 10000000) (hl : inputs.length ≤ 2147483647) :
    Calls Tryd.prog 41 #[.agg #[.slice (some ⟨g, 0, none⟩) A.n A.n, .map (some bm)], .slice Ai inputs.length ci] w fun e w' => ∃ v, e = .returned (.tuple #[v, .int .i64 0]) ∧ kIAns.R tIAns w' w.heap.size (fun _ => True) v (inputs.map (ansK cnt ks)) ∧ Below w.heap.size w w' := by
  have hmf : ∀ (fn : Fn) (first cap : Array Value) (w : World), (Instr.makeFunc fn first cap).run Tryd.prog w = .ok (.func fn first cap) w := fun _ _ _ _ => rfl
  have hid0 : ∀ x ∈ ks, 0 ≤ x.2 := fun x hx => by obtain ⟨j, hj, _⟩ := hid x hx; omega
  have HT := Lib.hid ht
  have HD := Lib.hid hd
  have HID := Lib.hid hid
  have HID0 := Lib.hid hid0
  have H0 := Lib.hid h0
  have HC := Lib.hid hC
  have HCL := Lib.hid hcl
  clear ht hid hC hcl hd h0 hid0
  go_enter_defers Tryd.func41, Tryd.ntmps41
  go_wp2_with fail
  obtain ⟨bx, hbx⟩ : ∃ bx, bx = w.heap.size := ⟨_, rfl⟩
  obtain ⟨w1, hw1⟩ : ∃ w1, w1 = ((w.alloc (.cells #[.slice (some ⟨g, 0, none⟩) A.n A.n, .map (some bm)] tIdx)).alloc (.cells #[.slice none 0 0] tIL)).alloc (.cells #[.int .i64 0] tInt) := ⟨_, rfl⟩
  have hx1 : w1.heap[bx]? = some (.cells #[.slice (some ⟨g, 0, none⟩) A.n A.n, .map (some bm)] tIdx (0, 0)) := by rw [hw1, hbx]; exact heap_old (heap_old (heap_new _ _) _) _
  have ho1 : w1.heap[bx + 1]? = some (.cells #[.slice none 0 0] tIL (0, 0)) := by
    have := heap_new (w.alloc (.cells #[.slice (some ⟨g, 0, none⟩) A.n A.n, .map (some bm)] tIdx)) (.cells #[.slice none 0 0] tIL)
    rw [size_alloc, ← hbx] at this
    rw [hw1]; exact heap_old this _
  have he1 : w1.heap[bx + 2]? = some (.cells #[.int .i64 0] tInt (0, 0)) := by
    have := heap_new ((w.alloc (.cells #[.slice (some ⟨g, 0, none⟩) A.n A.n, .map (some bm)] tIdx)).alloc (.cells #[.slice none 0 0] tIL)) (.cells #[.int .i64 0] tInt)
    rw [size_alloc, size_alloc, ← hw1, ← hbx] at this
    exact this
  have hb1 : Below w.heap.size w w1 := by rw [hw1]; exact (((Below.refl _ _).alloc (Nat.le_refl _) _).alloc (by simp) _).alloc (by simp; omega) _
  have hs1 : w1.heap.size = bx + 3 := by rw [hw1, hbx]; simp
  have HX1 := Lib.hid hx1
  have HO1 := Lib.hid ho1
  have HE1 := Lib.hid he1
  have HB1 := Lib.hid hb1
  have HS1 := Lib.hid hs1
  have HBX := Lib.hid hbx
  rw [← hbx, ← hw1]
  clear hw1 ho1 he1 hb1 hs1 hbx hx1
  go_loopw [7, 8, 12] (fun _ _ iv wr => ∃ (k : Nat) (v : Value), k ≤ inputs.length ∧ iv = .int .i64 k ∧ Hid (wr.heap[bx]? = some (.cells #[.slice (some ⟨g, 0, none⟩) A.n A.n, .map (some bm)] tIdx (0, 0))) ∧ Hid (wr.heap[bx + 1]? = some (.cells #[v] tIL (0, 0))) ∧ Hid (wr.heap[bx + 2]? = some (.cells #[.int .i64 0] tInt (0, 0))) ∧ Hid (kIAns.R tIAns wr (bx + 3) (fun _ => True) v ((inputs.take k).map (ansK cnt ks))) ∧ Hid (bx + 3 ≤ wr.heap.size) ∧ Hid (Below w.heap.size w wr)) (fun _ _ iv _ => inputs.length - (intOf iv).toNat)
  case atStart => exact ⟨0, _, Nat.zero_le _, rfl, HX1, HO1, HE1, Lib.hid (Kd.R_nil _ _ _ _ _), Lib.hid (by rw [HS1.out]; exact Nat.le_refl _), HB1⟩
  case round =>
    obtain ⟨k, v, hk, rfl, HX, HO, HE, HR, HS, HB⟩ := hrel
    by_cases hlt : k < inputs.length
    · obtain ⟨ad, rfl, hx⟩ := strs_at HC.out k hlt
      have hs1 := (HB.out.cell (World.block_lt_of_cell? w _ hx)).trans hx
      obtain ⟨hcl, hsz⟩ := HCL.out _ (List.getElem_mem hlt)
      have htk : (inputs.take (k + 1)).map (ansK cnt ks) = (inputs.take k).map (ansK cnt ks) ++ [ansK cnt ks inputs[k]] := by
        rw [List.take_succ_eq_append_getElem hlt, List.map_append]; rfl
      have HTK := Lib.hid htk
      have HCL1 := Lib.hid hcl
      obtain ⟨s, hs⟩ : ∃ s, s = inputs[k] := ⟨_, rfl⟩
      rw [← hs] at hs1 hsz HCL1 HTK
      clear hx htk hcl hs
      have hLl : ((inputs.take k).map (ansK cnt ks)).length = k := by rw [List.length_map, List.length_take]; omega
      generalize (inputs.take k).map (ansK cnt ks) = L at HR HTK hLl
      obtain ⟨ab, hab⟩ : ∃ ab, ab = wr.heap.size := ⟨_, rfl⟩
      obtain ⟨w2, hw2⟩ : ∃ w2, w2 = wr.alloc (.cells #[.slice none 0 0, .slice none 0 0, .slice none 0 0, .slice none 0 0] tIAns) := ⟨_, rfl⟩
      have hA2 : IAt ab (.slice none 0 0) (.slice none 0 0) (.slice none 0 0) (.slice none 0 0) w2 := by rw [hw2, hab]; exact heap_new _ _
      have hb2 : Below wr.heap.size wr w2 := by rw [hw2]; exact (Below.refl _ _).alloc (Nat.le_refl _) _
      have hs2 : w2.heap.size = ab + 1 := by rw [hw2, hab]; simp
      have hbxl : bx < wr.heap.size := lt_of_heap HX.out
      have hx2 := (hb2.block bx hbxl).trans HX.out
      have hc0 : w2.cell? ⟨bx, 0, none⟩ = some (.slice (some ⟨g, 0, none⟩) A.n A.n) := by rw [cell_of_heap hx2]; rfl
      have hc1 : w2.cell? ⟨bx, 1, none⟩ = some (.map (some bm)) := by rw [cell_of_heap hx2]; rfl
      have HA2 := Lib.hid hA2
      have HB2 := Lib.hid hb2
      have HS2 := Lib.hid hs2
      have hoks : Okc cnt (findF ks (bl s)).1 := find_okc HID.out H0.out _
      have HF := Lib.hid (ixSearch_any g A ks bm cnt s w2 ((HT.out.below HB.out).below hb2) HID0.out HCL1.out (by omega) ((HD.out.below HB.out).below hb2) (by obtain ⟨j, h1, h2, _⟩ := hoks; exact ⟨j, h1, h2⟩))
      have HAB := Lib.hid hab
      go_upto_region 6 with fail
      rw [← hw2, ← hab]
      clear hw2 hab hA2 hb2 hs2 hx2 hoks
      go_wp2_with fail
      refine HF.out.mono ?_
      rintro e w3 ⟨v3, rfl, ho3, hb3⟩
      obtain ⟨A3, c3, rfl, -⟩ := ho3.reads rfl
      have hA3 := HA2.out.below hb3
      have HB3 := Lib.hid (HB2.out.trans (hb3.mono HB2.out.size))
      have hok3 : ∀ q, w2.heap.size ≤ q → ab + 1 ≤ q := fun q hq => by have := HS2.out; omega
      have HR3 := Lib.hid (own_R ho3 hok3)
      obtain ⟨hd0, hd1, hd2, hd3⟩ := hA3.c
      have hf0 := hA3.f 0
      have HA3 := Lib.hid hA3
      clear hd1 hd2 hd3 hA3 hb3 HF ho3 hc0 hc1
      go_upto_region 7 with fail
      generalize hw4 : World.setCell _ _ _ = w4
      have hwr : wr.heap.size ≤ ab := by rw [HAB.out]; exact Nat.le_refl _
      have hA4 : IAt ab (.slice A3 (idsF cnt (findF ks (bl s))).length c3) (.slice none 0 0) (.slice none 0 0) (.slice none 0 0) w4 := by rw [← hw4]; exact HA3.out.set _
      have HB4 : Hid (Below wr.heap.size wr w4) := Lib.hid (by subst hw4; exact HB3.out.setCell (p := ⟨ab, 0, none⟩) hwr _)
      have HR4 : Hid ((Kd.int .i64).R tInt w4 w2.heap.size (fun q => ab + 1 ≤ q) (.slice A3 (idsF cnt (findF ks (bl s))).length c3) (idsF cnt (findF ks (bl s)))) := Lib.hid (by subst hw4; exact Kd.R_set HR3.out HA3.out (by decide) 0 _)
      have HA4 := Lib.hid hA4
      have hx4 := (HB4.out.block bx hbxl).trans HX.out
      have hc0 : w4.cell? ⟨bx, 0, none⟩ = some (.slice (some ⟨g, 0, none⟩) A.n A.n) := by rw [cell_of_heap hx4]; rfl
      have hc1 : w4.cell? ⟨bx, 1, none⟩ = some (.map (some bm)) := by rw [cell_of_heap hx4]; rfl
      have hokh : ∀ h ∈ hitsF ks (bl s) 0, ∃ j : Nat, h.1 = (j : Int) ∧ j + cnt j ≤ 2147483640 := fun h hh => by
        obtain ⟨p, hp⟩ := hits_mem _ _ _ _ hh
        obtain ⟨j, h1, h2, _⟩ := HID.out _ hp
        exact ⟨j, h1, h2⟩
      have HCM := Lib.hid (ixCommon_any g A ks bm cnt s w4 ((HT.out.below HB.out).below HB4.out) HID0.out HCL1.out (by omega) ((HD.out.below HB.out).below HB4.out) hokh)
      clear hw4 hA4 hd0 hf0 HB3 HR3 HA3 hx4 hokh
      go_wp2_with fail
      refine HCM.out.mono ?_
      rintro e w5 ⟨v1, v2, rfl, ho1, hr2, hb5⟩
      obtain ⟨A1, c1, rfl, -⟩ := ho1.reads (n := (hitsF ks (bl s) 0).length) (by rw [List.length_map])
      obtain ⟨A2, c2, rfl⟩ := Kd.R_slice hr2
      have hs24 : w2.heap.size ≤ w4.heap.size := by
        have := lt_of_heap HA4.out
        have := HS2.out
        omega
      have hok5 : ∀ q, w4.heap.size ≤ q → ab + 1 ≤ q := fun q hq => by have := HS2.out; omega
      have HR51 := Lib.hid (Kd.R_lower (own_R ho1 hok5) hs24)
      have HR52 : Hid (kRows.R tSl w5 w2.heap.size (fun q => ab + 1 ≤ q) (.slice A2 (listsF cnt (hitsF ks (bl s) 0)).length c2) (listsF cnt (hitsF ks (bl s) 0))) := Lib.hid (Kd.R_lower (Kd.R_mono (Kd.R_bound hr2) (fun q hq => hok5 q hq.2.1)) hs24)
      have HR53 := Lib.hid (Kd.R_below HR4.out hb5)
      have hA5 := HA4.out.below hb5
      have HB5 := Lib.hid (HB4.out.trans (hb5.mono HB4.out.size))
      obtain ⟨hd0, hd1, hd2, hd3⟩ := hA5.c
      have hf1 := hA5.f 1
      have hf2 := hA5.f 2
      have HA5 := Lib.hid hA5
      clear hd0 hd3 hA5 hb5 HCM hc0 hc1 ho1 hr2 hs24 hok5
      go_upto_region 8 with fail
      generalize hw6 : World.setCell (World.setCell _ _ _) _ _ = w6
      have hA6 := HA5.out.set12 (.slice A1 (hitsF ks (bl s) 0).length c1) (.slice A2 (listsF cnt (hitsF ks (bl s) 0)).length c2)
      rw [hw6] at hA6
      have hset : ∀ {α : Type} {d : Kd α} {e : Nat} {v : Value} {xs : List α} (h : d.R e w5 w2.heap.size (fun q => ab + 1 ≤ q) v xs) (ht : ∀ q, q ∈ e :: d.E → q ≠ tIAns), d.R e w6 w2.heap.size (fun q => ab + 1 ≤ q) v xs := fun h ht => by
        subst hw6
        exact Kd.R_set (Kd.R_set h HA5.out ht 1 _) (heap_set HA5.out 1 _) ht 2 _
      have HR61 := Lib.hid (hset HR51.out (by decide))
      have HR62 := Lib.hid (hset HR52.out (by decide))
      have HR63 := Lib.hid (hset HR53.out (by decide))
      have HB6 : Hid (Below wr.heap.size wr w6) := Lib.hid (by subst hw6; exact (HB5.out.setCell (p := ⟨ab, 1, none⟩) hwr _).setCell (p := ⟨ab, 2, none⟩) hwr _)
      have hx6 := (HB6.out.block bx hbxl).trans HX.out
      have hc0 : w6.cell? ⟨bx, 0, none⟩ = some (.slice (some ⟨g, 0, none⟩) A.n A.n) := by rw [cell_of_heap hx6]; rfl
      have hc1 : w6.cell? ⟨bx, 1, none⟩ = some (.map (some bm)) := by rw [cell_of_heap hx6]; rfl
      have hbml : bm < w.heap.size := HD.out.lt
      have HA6 := Lib.hid hA6
      have HCB := Lib.hid (ixCall_any bm ab cnt _ _ _ g A ks s w6 ((HD.out.below HB.out).below HB6.out) ((HT.out.below HB.out).below HB6.out) HID.out HCL1.out hsz hA6 (by have := HB.out.size; omega))
      clear hw6 hA6 hd1 hd2 hf1 hf2 HB5 hx6 hset HR51 HR52 HR53
      go_wp2_with fail
      refine HCB.out.mono ?_
      rintro e w10 ⟨rfl, v10, hA10, hr10, hk10⟩
      obtain ⟨A10, c10, rfl⟩ := Kd.R_slice hr10
      obtain ⟨Av, cv, rfl⟩ := Kd.R_slice HR.out
      rw [hLl] at HR HO
      have hab6 : ab < w6.heap.size := lt_of_heap HA6.out
      have hkeep : ∀ {α : Type} {d : Kd α} {e : Nat} {v : Value} {xs : List α} (h : d.R e w6 w2.heap.size (fun q => ab + 1 ≤ q) v xs), d.R e w10 (bx + 3) (fun q => wr.heap.size ≤ q) v xs := fun h =>
        Kd.R_lower (Kd.R_mono (Kd.R_step h (fun q hq hlt => hk10.block q hlt (by omega) (by omega))) (fun q hq => by omega)) (by have := HB2.out.size; have := HS.out; omega)
      have hR1 := hkeep HR61.out
      have hR2 := hkeep HR62.out
      have hR0 := hkeep HR63.out
      have hR3 : kHit.R tHit w10 (bx + 3) (fun q => wr.heap.size ≤ q) (.slice A10 (callsF cnt (hitsF ks (bl s) 0)).length c10) (callsF cnt (hitsF ks (bl s) 0)) :=
        Kd.R_lower (Kd.R_mono (Kd.R_bound hr10) (fun q hq => by have := hq.2.1; have := HB6.out.size; omega)) (by have := HB6.out.size; have := HS.out; omega)
      have hB10 : Below wr.heap.size wr w10 := HB6.out.trans (hk10.below hwr hwr HB6.out.size)
      have hbol : bx + 1 < wr.heap.size := lt_of_heap HO.out
      have ho10 : w10.heap[bx + 1]? = some (.cells #[.slice Av k cv] tIL (0, 0)) := (hB10.block (bx + 1) hbol).trans HO.out
      have hco : w10.cell? ⟨bx + 1, 0, none⟩ = some (.slice Av k cv) := by rw [cell_of_heap ho10]; rfl
      obtain ⟨hc0', hc1', hc2', hc3'⟩ := hA10.c
      have HO10 := Lib.hid ho10
      have HB10 := Lib.hid hB10
      have HR10 := Lib.hid (Kd.R_below HR.out hB10)
      have HM10 : Hid (∀ o : Obj, kIAns.M (w10.alloc o) (bx + 3) (fun k => wr.heap.size ≤ k) (ansK cnt ks s) [.slice A3 (idsF cnt (findF ks (bl s))).length c3, .slice A1 (hitsF ks (bl s) 0).length c1, .slice A2 (listsF cnt (hitsF ks (bl s) 0)).length c2, .slice A10 (callsF cnt (hitsF ks (bl s) 0)).length c10]) :=
        Lib.hid (fun o => ians_M (Kd.R_alloc hR0 o) (Kd.R_alloc hR1 o) (Kd.R_alloc hR2 o) (Kd.R_alloc hR3 o))
      have HV : Hid (∀ j, wr.heap.size ≤ j → some j ≠ (Value.slice Av k cv).ownBlock) := Lib.hid (fun j hj e => by have := Kd.R_lt HR.out j e.symm; omega)
      have HL10 : Hid (bx + 3 ≤ w10.heap.size) := Lib.hid (Nat.le_trans HS.out HB10.out.size)
      clear hr10 hk10 hA10 hR0 hR1 hR2 hR3 hkeep hB10 ho10 hab6 HCB hc0 hc1 HR61 HR62 HR63
      go_wp2_with (at_builtin; refine kapp (w0 := w10) kIAns (bx + 3) rfl _ _ tIL tIAns (.agg #[.slice none 0 0, .slice none 0 0, .slice none 0 0, .slice none 0 0]) 96 rfl Tryd.underlying25 infoIAns rfl (by decide) (by decide) _ L (ansK cnt ks s) [.slice A3 (idsF cnt (findF ks (bl s))).length c3, .slice A1 (hitsF ks (bl s) 0).length c1, .slice A2 (listsF cnt (hitsF ks (bl s) 0)).length c2, .slice A10 (callsF cnt (hitsF ks (bl s) 0)).length c10] (fun _ => True) (fun k => wr.heap.size ≤ k) w10.heap.size rfl rfl ?hg (HM10.out _) (fun j hj => ⟨trivial, HV.out j hj⟩) (fun _ _ => trivial) (Kd.R_alloc HR10.out _) ((Below.refl _ _).alloc HL10.out _) (by have := HL10.out; simp; omega) ?hl ?_)
      case hg =>
        intro j u hj
        rw [cell_of_heap (heap_new w10 _)]
        simpa using hj
      case hl => omega
      intro v11 w11 hown hb11 hgr hat
      obtain ⟨A11, c11, rfl⟩ := Kd.R_slice hown
      have hlenk : (L ++ [ansK cnt ks s]).length = k + 1 := by rw [List.length_append, hLl]; rfl
      rw [hlenk] at hown ⊢
      have hx11 : w11.heap[bx]? = some (.cells #[.slice (some ⟨g, 0, none⟩) A.n A.n, .map (some bm)] tIdx (0, 0)) := (hb11.block bx (by omega)).trans ((HB10.out.block bx hbxl).trans HX.out)
      have ho11 : w11.heap[bx + 1]? = some (.cells #[.slice Av k cv] tIL (0, 0)) := (hb11.block (bx + 1) (by omega)).trans HO10.out
      have he11 : w11.heap[bx + 2]? = some (.cells #[.int .i64 0] tInt (0, 0)) := (hb11.block (bx + 2) (by omega)).trans ((HB10.out.block (bx + 2) (lt_of_heap HE.out)).trans HE.out)
      have hc11 : w11.cell? ⟨bx + 1, 0, none⟩ = some (.slice Av k cv) := by rw [cell_of_heap ho11]; rfl
      have hf11 : w11.frozen? ⟨bx + 1, 0, none⟩ = false := frozen_of_heap ho11 0
      have HX11 := Lib.hid hx11
      have HO11 := Lib.hid ho11
      have HE11 := Lib.hid he11
      have HR11 := Lib.hid hown
      have HL11 : Hid (bx + 3 ≤ w11.heap.size) := Lib.hid (Nat.le_trans HL10.out hb11.size)
      have HB11 : Hid (Below w.heap.size w w11) := Lib.hid ((HB.out.trans (HB10.out.mono HB.out.size)).trans (hb11.mono (by have := HBX.out; omega)))
      clear hown hb11 hgr hat ho11 he11 hx11 hc0' hc1' hc2' hc3' hco
      go_wp2_with fail
      refine ⟨⟨k + 1, .slice A11 (k + 1) c11, by omega, by go_num, Lib.hid ?_, Lib.hid ?_, Lib.hid ?_, Lib.hid ?_, Lib.hid ?_, Lib.hid ?_⟩, by simp [intOf]; omega⟩
      · rw [heap_set_ne (by omega)]; exact HX11.out
      · rw [heap_set HO11.out]; rfl
      · rw [heap_set_ne (by omega)]; exact HE11.out
      · rw [HTK.out]; exact Kd.R_set HR11.out HO11.out (by decide) 0 _
      · rw [size_set]; exact HL11.out
      · exact HB11.out.setCell (p := ⟨bx + 1, 0, none⟩) (by have := HBX.out; show w.heap.size ≤ bx + 1; omega) _
    · obtain rfl : k = inputs.length := by omega
      have hr := HR.out
      rw [List.take_length] at hr
      obtain ⟨Av, cv, rfl⟩ := Kd.R_slice hr
      rw [List.length_map] at hr HO
      have hco : wr.cell? ⟨bx + 1, 0, none⟩ = some (.slice Av inputs.length cv) := by rw [cell_of_heap HO.out]; rfl
      have hce : wr.cell? ⟨bx + 2, 0, none⟩ = some (.int .i64 0) := by rw [cell_of_heap HE.out]; rfl
      have hfo : wr.frozen? ⟨bx + 1, 0, none⟩ = false := frozen_of_heap HO.out 0
      have hfe : wr.frozen? ⟨bx + 2, 0, none⟩ = false := frozen_of_heap HE.out 0
      have HR1 := Lib.hid hr
      clear hr
      go_wp2_with fail
      have hR2 : kIAns.R tIAns ((wr.setCell ⟨bx + 1, 0, none⟩ (.slice Av inputs.length cv)).setCell ⟨bx + 2, 0, none⟩ (.int .i64 0)) w.heap.size (fun _ => True) (.slice Av inputs.length cv) (inputs.map (ansK cnt ks)) := by
        have hne : (wr.setCell ⟨bx + 1, 0, none⟩ (.slice Av inputs.length cv)).heap[bx + 2]? = some (.cells #[.int .i64 0] tInt (0, 0)) := by rw [heap_set_ne (by omega)]; exact HE.out
        have h1 := Kd.R_set HR1.out HO.out (by decide) 0 (.slice Av inputs.length cv)
        exact Kd.R_lower (Kd.R_mono (Kd.R_step (Kd.R_bound h1) (fun q hq _ => heap_set_ne (by have := hq.2.1; omega) 0 _)) (fun _ _ => trivial)) (by have := HBX.out; omega)
      have hB2 : Below w.heap.size w ((wr.setCell ⟨bx + 1, 0, none⟩ (.slice Av inputs.length cv)).setCell ⟨bx + 2, 0, none⟩ (.int .i64 0)) :=
        (HB.out.setCell (p := ⟨bx + 1, 0, none⟩) (by have := HBX.out; show w.heap.size ≤ bx + 1; omega) _).setCell (p := ⟨bx + 2, 0, none⟩) (by have := HBX.out; show w.heap.size ≤ bx + 2; omega) _
      have hw1 : ((wr.setCell ⟨bx + 1, 0, none⟩ (.slice Av inputs.length cv)).setCell ⟨bx + 2, 0, none⟩ (.int .i64 0)).cell? ⟨bx + 1, 0, none⟩ = some (.slice Av inputs.length cv) := by
        rw [cell_of_heap (c := #[.slice Av inputs.length cv]) (t := tIL) (f := (0, 0)) (by rw [heap_set_ne (by omega), heap_set HO.out]; rfl)]; rfl
      have hw2 : ((wr.setCell ⟨bx + 1, 0, none⟩ (.slice Av inputs.length cv)).setCell ⟨bx + 2, 0, none⟩ (.int .i64 0)).cell? ⟨bx + 2, 0, none⟩ = some (.int .i64 0) := by
        rw [cell_of_heap (c := #[.int .i64 0]) (t := tInt) (f := (0, 0)) (by rw [heap_set (c := #[.int .i64 0]) (t := tInt) (f := (0, 0)) (by rw [heap_set_ne (by omega)]; exact HE.out)]; rfl)]; rfl
      refine leaves_cons (f := 67) (args := #[.pointer (some ⟨bx + 1, 0, none⟩), .pointer (some ⟨bx + 2, 0, none⟩)]) (by simp) (by simp [go_sem]) ?_
      refine (iask_idle ⟨bx + 1, 0, none⟩ ⟨bx + 2, 0, none⟩ _).mono ?_
      rintro e u' w'' ⟨rfl, rfl, rfl⟩
      have HR2 := Lib.hid hR2
      have HB2 := Lib.hid hB2
      generalize (wr.setCell ⟨bx + 1, 0, none⟩ (.slice Av inputs.length cv)).setCell ⟨bx + 2, 0, none⟩ (.int .i64 0) = w9 at hw1 hw2 HR2 HB2 ⊢
      simp [Leaves, settle, results, Tryd.results41, go_sem, hw1, hw2]
      exact ⟨HR2.out, HB2.out⟩
end Go.Proofs.YteoljiclmhmbnaaDoor.Da

/-
  The walk of dict.BuildIndexTable.
-/
set_option linter.unusedVariables false
set_option linter.unusedSimpArgs false
namespace Go.Proofs.YteoljiclmhmbnaaDoor.Da
open Go.RowKit Go.ChangeShapes Go.Proofs.YteoljiclmhmbnaaDoor.K Go.Proofs.YteoljiclmhmbnaaDoorW.PrintWords Go.Maps

abbrev tPv : Nat := 186
abbrev tStr : Nat := 9
abbrev OwnS (base : Nat) (v : Value) (xs : List ByteArray) (w : World) : Prop := w.ownsRow base tStr 1 v (xs.map Value.string).length (xs.map Value.string)
theorem OwnS.reads {base n : Nat} {v : Value} {xs : List ByteArray} {w : World} (h : OwnS base v xs w) (hn : xs.length = n) : ∃ A c, v = .slice A n c ∧ Kd.string.C w A n xs := by
  have h1 : w.ownsRow base tStr 1 v xs.length (encs Value.string xs) := by
    have h2 := h
    unfold OwnS at h2
    rw [List.length_map] at h2
    exact h2
  have hr : Kd.string.R tStr w base (fun _ => True) v xs := Kd.R_of_own h1 (fun _ _ => trivial)
  obtain ⟨A, c, h3, _, h4⟩ := Kd.R_reads hr
  subst hn
  exact ⟨A, c, h3, h4⟩
theorem own_set {w : World} {base e size n : Nat} {v : Value} {xs : List Value} (h : w.ownsRow base e size v n xs) {g t : Nat} {cells : Array Value} (hb : w.heap[g]? = some (.cells cells t (0, 0))) (ht : e ≠ t) (j : Nat) (u : Value) : (w.setCell ⟨g, j, none⟩ u).ownsRow base e size v n xs :=
  own_keep h (fun k hk => by obtain ⟨cur, hc⟩ := own_heap h hk; exact heap_set_ne (typ_ne hc hb ht) j u)
theorem own_map_ne {w : World} {base e size n bm : Nat} {v : Value} {xs : List Value} (h : w.ownsRow base e size v n xs) {cnt : Nat → Nat} (hd : Dup bm cnt w) : v.ownBlock = none ∨ v.ownBlock ≠ some bm := by
  refine .inr (fun e => ?_)
  obtain ⟨cur, hc⟩ := own_heap h e
  obtain ⟨_, D, hn, ⟨es, clock, h1, r⟩, hD⟩ := hd
  rw [hc] at h1
  cases h1
theorem dup_bump {D : DataW Unit} {x : Ix} (hD : DupD D x.cnt) (hm : IsMap D) (hno : x.no ≤ 2147483647) : DupD (D.put (.int .i32 (x.no : Int)) (.lit (.int .i32 ((x.cnt x.no + 1 : Nat) : Int)))) (bump x).cnt := by
  intro j hj
  by_cases e : j = x.no
  · subst e
    rw [atKey_put_same hm (by trivial)]
    show _ = DataW.lit (.int .i32 ((if x.no = x.no then x.cnt x.no + 1 else x.cnt x.no : Nat) : Int))
    rw [if_pos rfl]
  · rw [atKey_put_other (by intro h; injection h with _ h; omega), hD j hj]
    show _ = DataW.lit (.int .i32 ((if j = x.no then x.cnt j + 1 else x.cnt j : Nat) : Int))
    rw [if_neg e]
/-- What lies in memory while an index is built. -/
structure BSt (rc mb xc pc n0 k : Nat) (x : Ix) (kv iv : Value) (w : World) : Prop where
  rc : w.heap[rc]? = some (.cells #[.slice none 0 0, .map none] tIdx (0, 0))
  xc : w.heap[xc]? = some (.cells #[.slice none 0 0, .map (some mb)] tIdx (0, 0))
  pc : w.heap[pc]? = some (.cells #[.int .i64 (x.no : Int), .string x.wd] tPv (0, 0))
  mp : ∃ n D, n ≤ k ∧ w.ownsMap Tryd.prog tI32 (plainElem Tryd.prog tI32) mb n D ∧ DupD D x.cnt
  ks : OwnS n0 kv x.K w
  is : OwnI n0 iv x.I w
  ap : Apt kv iv
theorem BSt.dup {rc mb xc pc n0 k : Nat} {x : Ix} {kv iv : Value} {w : World} (h : BSt rc mb xc pc n0 k x kv iv w) (hk : k ≤ 2147483647) : Dup mb x.cnt w := by
  obtain ⟨n, D, hn, h1, h2⟩ := h.mp
  exact ⟨n, D, by omega, h1, h2⟩
theorem keepMap {w w' : World} {b n : Nat} {D : DataW Unit} (h : w.ownsMap Tryd.prog tI32 (plainElem Tryd.prog tI32) b n D) (hb : w'.heap[b]? = w.heap[b]?) : w'.ownsMap Tryd.prog tI32 (plainElem Tryd.prog tI32) b n D := by
  obtain ⟨es, clock, h1, r⟩ := h
  exact ⟨es, clock, hb.trans h1, r⟩
theorem mapAt {w : World} {b n : Nat} {D : DataW Unit} (h : w.ownsMap Tryd.prog tI32 (plainElem Tryd.prog tI32) b n D) : ∃ es c, w.heap[b]? = some (.map es c) := by
  obtain ⟨es, clock, h1, r⟩ := h
  exact ⟨es, clock, h1⟩
/-- All of it stays where nothing but fresh memory is touched. -/
theorem BSt.below {rc mb xc pc n0 k : Nat} {x : Ix} {kv iv : Value} {w w' : World} (h : BSt rc mb xc pc n0 k x kv iv w) (hb : Below w.heap.size w w') : BSt rc mb xc pc n0 k x kv iv w' := by
  obtain ⟨n, D, hn, h1, h2⟩ := h.mp
  obtain ⟨es, c, hm⟩ := mapAt h1
  exact ⟨(hb.block _ (lt_of_heap h.rc)).trans h.rc, (hb.block _ (lt_of_heap h.xc)).trans h.xc, (hb.block _ (lt_of_heap h.pc)).trans h.pc, ⟨n, D, hn, keepMap h1 (hb.block _ (lt_of_heap hm)), h2⟩,
    own_keep h.ks (fun q hq => hb.block q (World.ownsRow.lt h.ks q hq).2), own_keep h.is (fun q hq => hb.block q (World.ownsRow.lt h.is q hq).2), h.ap⟩
/-- The place and the word that stood last are laid anew. -/
theorem BSt.prev {rc mb xc pc n0 k : Nat} {x : Ix} {kv iv : Value} {w : World} (h : BSt rc mb xc pc n0 k x kv iv w) (hrc : rc ≠ pc) (hxc : xc ≠ pc) (no : Nat) (wd : ByteArray) : BSt rc mb xc pc n0 k { x with no := no, wd := wd } kv iv ((w.setCell ⟨pc, 0, none⟩ (.int .i64 (no : Int))).setCell ⟨pc, 1, none⟩ (.string wd)) := by
  obtain ⟨n, D, hn, h1, h2⟩ := h.mp
  obtain ⟨es, c, hm⟩ := mapAt h1
  have hmp : mb ≠ pc := by
    rintro rfl
    rw [h.pc] at hm
    cases hm
  have hp1 : (w.setCell ⟨pc, 0, none⟩ (.int .i64 (no : Int))).heap[pc]? = some (.cells #[.int .i64 (no : Int), .string x.wd] tPv (0, 0)) := by rw [heap_set h.pc]; rfl
  refine ⟨?_, ?_, ?_, ⟨n, D, hn, keepMap h1 ?_, h2⟩, own_set (own_set h.ks h.pc (by decide) 0 _) hp1 (by decide) 1 _, own_set (own_set h.is h.pc (by decide) 0 _) hp1 (by decide) 1 _, h.ap⟩
  · rw [heap_set_ne hrc, heap_set_ne hrc]; exact h.rc
  · rw [heap_set_ne hxc, heap_set_ne hxc]; exact h.xc
  · rw [heap_set hp1]; rfl
  · rw [heap_set_ne hmp, heap_set_ne hmp]

theorem BSt.appK {rc mb xc pc n0 k : Nat} {x : Ix} {kv iv kv' : Value} {w w' : World} {o : Obj} {key : ByteArray} (h : BSt rc mb xc pc n0 k x kv iv w) (ho : OwnS n0 kv' (x.K ++ [key]) w') (hg : (w.alloc o).grownBy w' kv.ownBlock)
    (hat : kv'.ownBlock = kv.ownBlock ∨ ∃ b, kv'.ownBlock = some b ∧ w.heap.size + 1 ≤ b) : BSt rc mb xc pc n0 k { x with K := x.K ++ [key] } kv' iv w' := by
  have hne : ∀ (j : Nat) (ob : Obj), w.heap[j]? = some ob → (∀ cur, ob ≠ Obj.cells cur tStr (0, 0)) → w'.heap[j]? = w.heap[j]? := fun j ob hj hn => by
    rw [hg.block j (by rw [size_alloc]; have := lt_of_heap hj; omega) (by
      intro e
      obtain ⟨cur, hc⟩ := own_heap h.ks e.symm
      rw [hj] at hc
      injection hc with hc
      exact hn _ hc)]
    exact heap_old' _ _ (lt_of_heap hj)
  obtain ⟨n, D, hn, h1, h2⟩ := h.mp
  obtain ⟨es, c, hm⟩ := mapAt h1
  refine ⟨(hne _ _ h.rc (by intro cur e; injection e with _ e; exact absurd e (by decide))).trans h.rc, (hne _ _ h.xc (by intro cur e; injection e with _ e; exact absurd e (by decide))).trans h.xc, (hne _ _ h.pc (by intro cur e; injection e with _ e; exact absurd e (by decide))).trans h.pc,
    ⟨n, D, hn, keepMap h1 (hne _ _ hm (by intro cur e; cases e)), h2⟩, ho, (World.ownsRow.alloc h.is o).kept hg h.ap.symm, h.ap.moved hat (fun j hj => by have := (World.ownsRow.lt h.is j hj).2; omega)⟩
theorem BSt.appI {rc mb xc pc n0 k : Nat} {x : Ix} {kv iv iv' : Value} {w w' : World} {o : Obj} {z : Int} (h : BSt rc mb xc pc n0 k x kv iv w) (ho : OwnI n0 iv' (x.I ++ [z]) w') (hg : (w.alloc o).grownBy w' iv.ownBlock)
    (hat : iv'.ownBlock = iv.ownBlock ∨ ∃ b, iv'.ownBlock = some b ∧ w.heap.size + 1 ≤ b) : BSt rc mb xc pc n0 k { x with I := x.I ++ [z] } kv iv' w' := by
  have hne : ∀ (j : Nat) (ob : Obj), w.heap[j]? = some ob → (∀ cur, ob ≠ Obj.cells cur tInt (0, 0)) → w'.heap[j]? = w.heap[j]? := fun j ob hj hn => by
    rw [hg.block j (by rw [size_alloc]; have := lt_of_heap hj; omega) (by
      intro e
      obtain ⟨cur, hc⟩ := own_heap h.is e.symm
      rw [hj] at hc
      injection hc with hc
      exact hn _ hc)]
    exact heap_old' _ _ (lt_of_heap hj)
  obtain ⟨n, D, hn, h1, h2⟩ := h.mp
  obtain ⟨es, c, hm⟩ := mapAt h1
  refine ⟨(hne _ _ h.rc (by intro cur e; injection e with _ e; exact absurd e (by decide))).trans h.rc, (hne _ _ h.xc (by intro cur e; injection e with _ e; exact absurd e (by decide))).trans h.xc, (hne _ _ h.pc (by intro cur e; injection e with _ e; exact absurd e (by decide))).trans h.pc,
    ⟨n, D, hn, keepMap h1 (hne _ _ hm (by intro cur e; cases e)), h2⟩, (World.ownsRow.alloc h.ks o).kept hg h.ap, ho, (h.ap.symm.moved hat (fun j hj => by have := (World.ownsRow.lt h.ks j hj).2; omega)).symm⟩
theorem BSt.next {rc mb xc pc n0 k : Nat} {x : Ix} {kv iv : Value} {w : World} (h : BSt rc mb xc pc n0 k x kv iv w) : BSt rc mb xc pc n0 (k + 1) x kv iv w := by
  obtain ⟨n, D, hn, h1, h2⟩ := h.mp
  exact { h with mp := ⟨n, D, by omega, h1, h2⟩ }

/-- An index is built. -/
def BRet (ws : List ByteArray) (w : World) (e : Ending) (w' : World) : Prop := ∃ g A bm, e = .returned (.tuple #[.agg #[.slice (some ⟨g, 0, none⟩) A.n A.n, .map (some bm)], .nilIface]) ∧ Trie g A (ksAll (ixOf ws).K (ixOf ws).I) w' ∧ Dup bm (ixOf ws).cnt w' ∧ Below w.heap.size w w'

set_option maxHeartbeats 2000000 in
set_option maxRecDepth 100000 in
theorem ixBuild_any (Ak : Option Addr) (ck : Nat) (ws : List ByteArray) (w : World) (ho : Ord ws false) (hC : Kd.string.C w Ak ws.length ws) (hl : ws.length ≤ 1000000) (hs : sumL (ixOf ws).K ≤ 4000) :
    Calls Tryd.prog 66 #[.slice Ak ws.length ck] w (BRet ws w) := by
  have hmm := @run_makeMap Tryd.prog
  have hK := ixOf_keys ho (by omega) hs
  have HO := Lib.hid ho
  have HC := Lib.hid hC
  have HK := Lib.hid hK
  have hasc : ∀ i (h : i + 1 < ws.length), ltB ws[i + 1] ws[i] = false := fun i h => by
    have h2 := ((ho.2 (i + 1) h).2.2 (by omega)).1
    rw [show i + 1 - 1 = i by omega, kAt_eq h, kAt_eq (by omega)] at h2
    exact h2
  have HASC := Lib.hid hasc
  clear ho hC hK hs hasc
  go_enter Tryd.func66, Tryd.ntmps66
  go_upto_region 2 with fail
  obtain ⟨rc, hrc⟩ : ∃ rc, rc = w.heap.size := ⟨_, rfl⟩
  obtain ⟨w1, hw1⟩ : ∃ w1, w1 = ((w.alloc (.cells #[.slice none 0 0, .map none] tIdx)).alloc (.map #[] 0)).alloc (.cells #[.slice none 0 0, .map (some (w.heap.size + 1))] tIdx) := ⟨_, rfl⟩
  have h1 : w1.heap[rc]? = some (.cells #[.slice none 0 0, .map none] tIdx (0, 0)) := by rw [hw1, hrc]; exact heap_old (heap_old (heap_new _ _) _) _
  have h2 : w1.heap[rc + 1 + 1]? = some (.cells #[.slice none 0 0, .map (some (rc + 1))] tIdx (0, 0)) := by
    have := heap_new ((w.alloc (.cells #[.slice none 0 0, .map none] tIdx)).alloc (.map #[] 0)) (.cells #[.slice none 0 0, .map (some (w.heap.size + 1))] tIdx)
    rw [size_alloc, size_alloc, ← hw1, ← hrc] at this
    exact this
  have h3 : w1.ownsMap (H := Unit) Tryd.prog tI32 (plainElem Tryd.prog tI32) (rc + 1) 0 (.map []) := by
    have h := World.ownsMap_made (H := Unit) (w.alloc (.cells #[.slice none 0 0, .map none] tIdx)) Tryd.prog tI32 (plainElem Tryd.prog tI32)
    rw [size_alloc, ← hrc] at h
    obtain ⟨es, c, hm⟩ := mapAt h
    rw [hw1]
    exact keepMap h (heap_old' _ _ (lt_of_heap hm))
  have hb1 : Below w.heap.size w w1 := by rw [hw1]; exact (((Below.refl _ _).alloc (Nat.le_refl _) _).alloc (by simp) _).alloc (by simp; omega) _
  have hs1 : w1.heap.size = rc + 3 := by rw [hw1, hrc]; simp
  have H1 := Lib.hid h1
  have H2 := Lib.hid h2
  have H3 := Lib.hid h3
  have HB1 := Lib.hid hb1
  have HS1 := Lib.hid hs1
  have HRC := Lib.hid hrc
  have HSY := Lib.hid (sorted_yes Ak ck ws w1 (Kd.C_below HC.out hb1) HASC.out)
  rw [← hrc] at hw1 ⊢
  rw [← hw1]
  clear hw1 h1 h2 h3 hb1 hs1 hrc
  go_wp2_with fail
  refine HSY.out.mono ?_
  rintro e w2 ⟨rfl, n2, hn2⟩
  have H12 : Hid (w2.heap[rc]? = some (.cells #[.slice none 0 0, .map none] tIdx (0, 0))) := Lib.hid (by rw [hn2]; exact H1.out)
  have H22 : Hid (w2.heap[rc + 1 + 1]? = some (.cells #[.slice none 0 0, .map (some (rc + 1))] tIdx (0, 0))) := Lib.hid (by rw [hn2]; exact H2.out)
  have H32 : Hid (w2.ownsMap (H := Unit) Tryd.prog tI32 (plainElem Tryd.prog tI32) (rc + 1) 0 (.map [])) := Lib.hid (keepMap H3.out (by rw [hn2]; rfl))
  have HB2 : Hid (Below w.heap.size w w2) := Lib.hid (by rw [hn2]; exact pw_below_drewN HB1.out n2)
  have HS2 : Hid (w2.heap.size = rc + 3) := Lib.hid (by rw [hn2]; exact HS1.out)
  clear hn2 H1 H2 H3 HB1 HS1 HSY
  have hmkS : ∀ W : World, (Instr.makeSlice 29 (.int .i64 0) (.int .i64 (ws.length : Int))).run Tryd.prog W = .ok (.slice (some ⟨W.heap.size, 0, none⟩) 0 ws.length) (W.alloc (.cells (madeCells #[.string ByteArray.empty] ws.length) tStr)) := fun W =>
    run_make_room (P := Tryd.prog) 29 tStr (.string ByteArray.empty) 16 Tryd.underlying29 (by kernel_rfl) rfl .i64 .i64 ws.length (by omega) (by omega) W
  have hmkI : ∀ W : World, (Instr.makeSlice 37 (.int .i64 0) (.int .i64 (ws.length : Int))).run Tryd.prog W = .ok (.slice (some ⟨W.heap.size, 0, none⟩) 0 ws.length) (W.alloc (.cells (madeCells #[.int .i64 0] ws.length) tInt)) := fun W =>
    run_make_room (P := Tryd.prog) 37 tInt (.int .i64 0) 8 Tryd.underlying37 (by kernel_rfl) rfl .i64 .i64 ws.length (by omega) (by omega) W
  go_upto_region 7 with fail
  clear hmkS hmkI
  obtain ⟨q, hq⟩ : ∃ q, q = w2.heap.size := ⟨_, rfl⟩
  obtain ⟨w3, hw3⟩ : ∃ w3, w3 = ((w2.alloc (.cells (madeCells #[.string ByteArray.empty] ws.length) tStr)).alloc (.cells (madeCells #[.int .i64 0] ws.length) tInt)).alloc (.cells #[.int .i64 0, .string ByteArray.empty] tPv) := ⟨_, rfl⟩
  have hbst : BSt rc (rc + 1) (rc + 1 + 1) (q + 1 + 1) q 0 (ixF ws 0) (.slice (some ⟨q, 0, none⟩) 0 ws.length) (.slice (some ⟨q + 1, 0, none⟩) 0 ws.length) w3 := by
    have hb : Below w2.heap.size w2 w3 := by rw [hw3]; exact (((Below.refl _ _).alloc (Nat.le_refl _) _).alloc (by simp) _).alloc (by simp; omega) _
    obtain ⟨es, c, hm⟩ := mapAt H32.out
    refine ⟨(hb.block _ (lt_of_heap H12.out)).trans H12.out, (hb.block _ (lt_of_heap H22.out)).trans H22.out, ?_, ⟨0, .map [], Nat.zero_le _, keepMap H32.out (hb.block _ (lt_of_heap hm)), ?_⟩, ?_, ?_, .inr (by simp [Value.ownBlock])⟩
    · have := heap_new ((w2.alloc (.cells (madeCells #[.string ByteArray.empty] ws.length) tStr)).alloc (.cells (madeCells #[.int .i64 0] ws.length) tInt)) (.cells #[.int .i64 0, .string ByteArray.empty] tPv)
      rw [size_alloc, size_alloc, ← hw3, ← hq] at this
      exact this
    · intro j hj
      rfl
    · rw [hw3, hq]
      exact World.ownsRow.alloc (World.ownsRow.alloc (World.ownsRow_made w2 _ ws.length (Nat.le_refl _) (by unfold maxLen; omega) (by rw [size_madeCells, Nat.mul_one])) _) _
    · have h := World.ownsRow_made (base := q) (e := tInt) (size := 1) (w2.alloc (.cells (madeCells #[.string ByteArray.empty] ws.length) tStr)) (madeCells #[.int .i64 0] ws.length) ws.length (by rw [size_alloc]; omega) (by unfold maxLen; omega) (by rw [size_madeCells, Nat.mul_one])
      rw [size_alloc, ← hq] at h
      rw [hw3]
      exact World.ownsRow.alloc h _
  have HBS := Lib.hid hbst
  have HB3 : Hid (Below w.heap.size w w3) := Lib.hid (by rw [hw3]; exact ((HB2.out.alloc HB2.out.size _).alloc (by simp; have := HB2.out.size; omega) _).alloc (by simp; have := HB2.out.size; omega) _)
  have HQ3 : Hid (q = rc + 3) := Lib.hid (by rw [hq]; exact HS2.out)
  have HQS : Hid (q + 3 ≤ w3.heap.size) := Lib.hid (by rw [hw3, hq]; simp)
  refine (show Code.wp _ _ _ _ w3 → _ from fun h => by rw [← hq]; rw [hw3] at h; exact h) ?_
  clear hw3 hbst hq H12 H22 H32 HB2 HS2
  go_upto_region 8 with fail
  go_loopw [5, 6, 8, 9, 28] (fun kv iv _ _ jv wr => ∃ k : Nat, k ≤ ws.length ∧ jv = .int .i64 k ∧ Hid (BSt rc (rc + 1) (rc + 1 + 1) (q + 1 + 1) q k (ixF ws k) kv iv wr) ∧ Hid (q + 3 ≤ wr.heap.size) ∧ Hid (Below w.heap.size w wr)) (fun _ _ _ _ jv _ => ws.length - (intOf jv).toNat)
  case atStart => exact ⟨0, Nat.zero_le _, rfl, HBS, HQS, HB3⟩
  case round =>
    obtain ⟨k, hk, rfl, HBK, HQR, HB⟩ := hrel
    by_cases hlt : k < ws.length
    · obtain ⟨ad, rfl, hx⟩ := strs_at HC.out k hlt
      have hy := (HB.out.cell (World.block_lt_of_cell? w _ hx)).trans hx
      have hli : (k : Int) < (ws.length : Int) := by omega
      have hiv := ixF_inv HO.out k (by omega)
      have HST : Hid (ixF ws (k + 1) = stepI (ixF ws k) k ws[k]) := Lib.hid (by rw [← kAt_eq hlt]; rfl)
      generalize ws[k] = key at hy HST
      obtain ⟨x, hx'⟩ : ∃ x, x = ixF ws k := ⟨_, rfl⟩
      rw [← hx'] at HST HBK hiv
      have hno : x.no ≤ k := by
        rcases Nat.eq_zero_or_pos k with h | h
        · rw [(hiv.zero h).2]; omega
        · have := (hiv.last h).2.2.2; omega
      have HIV := Lib.hid hiv
      clear hx hx' hiv
      have hp0 : wr.cell? ⟨q + 1 + 1, 0, none⟩ = some (.int .i64 (x.no : Int)) := by rw [cell_of_heap HBK.out.pc]; rfl
      have hp1 : wr.cell? ⟨q + 1 + 1, 1, none⟩ = some (.string x.wd) := by rw [cell_of_heap HBK.out.pc]; rfl
      by_cases he : key = x.wd
      · have hqe : (key.toList == x.wd.toList) = true := by rw [he]; exact beq_self_eq_true _
        have HE := Lib.hid he
        clear he
        have hx1 : wr.cell? ⟨rc + 1 + 1, 1, none⟩ = some (.map (some (rc + 1))) := by rw [cell_of_heap HBK.out.xc]; rfl
        obtain ⟨n, D, hn, hown, hD⟩ := HBK.out.mp
        have HOWN := Lib.hid hown
        have HDD := Lib.hid hD
        have HKEY : Hid (keyOf Tryd.prog tI32 (.int .i32 (x.no : Int)) = some (.int .i32 (x.no : Int))) := Lib.hid (keyOf_int_mk Tryd.underlying21 (wf_i32 (by omega) (by omega)))
        have hj32 : IntKind.i32.wrap (x.no : Int) = x.no := IntWalk.i32_in _ (by omega)
        obtain ⟨N, hN⟩ : ∃ N, N = x.cnt x.no := ⟨_, rfl⟩
        have hNb : N ≤ k := by
          rw [hN]
          rcases Nat.lt_or_ge x.no k with h | h
          · have := HIV.out.cb x.no h; omega
          · rw [HIV.out.cz x.no h]; omega
        have HN := Lib.hid hN
        have hwf : (Lit.int .i32 ((N : Int) + 1)).wf = true := wf_i32 (by omega) (by omega)
        clear hown hD hN
        go_upto_region 16 with (first
          | (at_lookup; refine wpList_lookup_own_int _ rfl _ _ tMp rfl tI32 tI32 .i32 lawI Tryd.underlying89 Tryd.underlying21 (zeroI32 _) (rc + 1) n D rfl HOWN.out _ _ rfl HKEY.out ?_; intro c hat hwc; obtain rfl := (dup_val HDD.out (by omega) hat).trans (by rw [← HN.out]); clear hat hwc)
          | (at_mapUpdate; refine wpList_mapUpdate_own _ rfl _ _ _ tMp rfl tI32 tI32 lawI Tryd.underlying89 _ (rc + 1) n D rfl HOWN.out (by unfold maxLen; omega) _ _ _ rfl rfl HKEY.out _ [] (plainElem_int Tryd.underlying21 hwf) ?_; intro w5 hown5 hgrow5))
        have hX : BSt rc (rc + 1) (rc + 1 + 1) (q + 1 + 1) q (k + 1) (ixF ws (k + 1)) u5 u6 w5 := by
          rw [HST.out, stepI, if_pos HE.out]
          have hne : ∀ j t cells, wr.heap[j]? = some (Obj.cells cells t (0, 0)) → w5.heap[j]? = wr.heap[j]? := fun j t cells h => hgrow5.block j (lt_of_heap h) (by
            intro e
            cases e
            obtain ⟨es, c, hm⟩ := mapAt HOWN.out
            rw [h] at hm
            cases hm)
          refine ⟨(hne _ _ _ HBK.out.rc).trans HBK.out.rc, (hne _ _ _ HBK.out.xc).trans HBK.out.xc, (hne _ _ _ HBK.out.pc).trans HBK.out.pc, ⟨n + 1, _, by omega, hown5, ?_⟩, own_keep HBK.out.ks (fun j hj => ?_), own_keep HBK.out.is (fun j hj => ?_), HBK.out.ap⟩
          · have := dup_bump HDD.out (World.ownsMap.isMap HOWN.out) (by omega)
            rw [← HN.out] at this
            exact this
          · obtain ⟨cur, hc⟩ := own_heap HBK.out.ks hj
            exact hne _ _ _ hc
          · obtain ⟨cur, hc⟩ := own_heap HBK.out.is hj
            exact hne _ _ _ hc
        have HX := Lib.hid hX
        have HQ5 : Hid (q + 3 ≤ w5.heap.size) := Lib.hid (Nat.le_trans HQR.out hgrow5.size)
        have HB5 : Hid (Below w.heap.size w w5) := Lib.hid (HB.out.grown hgrow5 HB.out.size (fun j hj => by cases hj; have := HRC.out; omega))
        clear hX hown5 hgrow5 HOWN HDD HKEY hp0 hp1 hx1
        go_wp2_with fail
        exact ⟨⟨k + 1, by omega, by go_num, HX, HQ5, HB5⟩, by simp [intOf]; omega⟩
      · have hqe : (key.toList == x.wd.toList) = false := by rw [beq_eq_false_iff_ne]; intro h; exact he (ba_toList h)
        have HE := Lib.hid he
        clear he
        have hf0 : wr.frozen? ⟨q + 1 + 1, 0, none⟩ = false := frozen_of_heap HBK.out.pc 0
        have hf1 : wr.frozen? ⟨q + 1 + 1, 1, none⟩ = false := frozen_of_heap HBK.out.pc 1
        have HBP := Lib.hid (HBK.out.prev (by have := HQ3.out; omega) (by have := HQ3.out; omega) k key)
        go_upto_region 14 with fail
        have HBw : Hid (Below w.heap.size w ((wr.setCell ⟨q + 1 + 1, 0, none⟩ (.int .i64 (k : Int))).setCell ⟨q + 1 + 1, 1, none⟩ (.string key))) := Lib.hid ((HB.out.setCell (p := ⟨q + 1 + 1, 0, none⟩) (by have := HQ3.out; have := HRC.out; show w.heap.size ≤ q + 1 + 1; omega) _).setCell (p := ⟨q + 1 + 1, 1, none⟩) (by have := HQ3.out; have := HRC.out; show w.heap.size ≤ q + 1 + 1; omega) _)
        have HQw : Hid (q + 3 ≤ ((wr.setCell ⟨q + 1 + 1, 0, none⟩ (.int .i64 (k : Int))).setCell ⟨q + 1 + 1, 1, none⟩ (.string key)).heap.size) := Lib.hid (by rw [size_set, size_set]; exact HQR.out)
        generalize (wr.setCell ⟨q + 1 + 1, 0, none⟩ (.int .i64 (k : Int))).setCell ⟨q + 1 + 1, 1, none⟩ (.string key) = w4 at HBP HBw HQw ⊢
        clear hp0 hp1 hf0 hf1 HBK HB HQR
        have hKl : x.K.length ≤ k := HIV.out.le
        have hIl : x.I.length ≤ k := by rw [HIV.out.len]; exact hKl
        go_upto_region 15 with (at_builtin; refine app1 (w0 := w4) q rfl _ _ 29 tStr (.string ByteArray.empty) 16 rfl Tryd.underlying29 (by kernel_rfl) rfl (by decide) _ (x.K.map Value.string) (.string key) w4.heap.size rfl rfl (cell_new0 _ _ _) rfl (World.ownsRow.alloc HBP.out.ks _) ((Below.refl _ _).alloc (by have := HQw.out; omega) _) (by have := HQw.out; simp; omega) (by rw [List.length_map]; omega) ?_)
        intro v5 w5 hown5 hb5 hgr5 hat5
        have HB5 := Lib.hid (HBP.out.appK (kv' := v5) (w' := w5) (key := key) (by unfold OwnS; simpa using hown5) hgr5 hat5)
        have HBw5 : Hid (Below w.heap.size w w5) := Lib.hid (HBw.out.trans (hb5.mono (by have := HQ3.out; have := HRC.out; omega)))
        have HQw5 : Hid (q + 3 ≤ w5.heap.size) := Lib.hid (Nat.le_trans HQw.out hb5.size)
        clear hown5 hb5 hgr5 hat5
        go_upto_region 16 with (at_builtin; refine app1 (w0 := w5) q rfl _ _ 37 tInt (.int .i64 0) 8 rfl Tryd.underlying37 (by kernel_rfl) rfl (by decide) _ (x.I.map (Value.int .i64)) (.int .i64 (k : Int)) w5.heap.size rfl rfl (cell_new0 _ _ _) rfl (World.ownsRow.alloc HB5.out.is _) ((Below.refl _ _).alloc (by have := HQw5.out; omega) _) (by have := HQw5.out; simp; omega) (by rw [List.length_map]; omega) ?_)
        intro v6 w6 hown6 hb6 hgr6 hat6
        have HX : Hid (BSt rc (rc + 1) (rc + 1 + 1) (q + 1 + 1) q (k + 1) (ixF ws (k + 1)) v5 v6 w6) := Lib.hid (by
          rw [HST.out, stepI, if_neg HE.out]
          exact (HB5.out.appI (iv' := v6) (w' := w6) (z := (k : Int)) (by unfold OwnI; simpa using hown6) hgr6 hat6).next)
        have HBw6 : Hid (Below w.heap.size w w6) := Lib.hid (HBw5.out.trans (hb6.mono (by have := HQ3.out; have := HRC.out; omega)))
        have HQw6 : Hid (q + 3 ≤ w6.heap.size) := Lib.hid (Nat.le_trans HQw5.out hb6.size)
        clear hown6 hb6 hgr6 hat6
        go_wp2_with fail
        exact ⟨⟨k + 1, by omega, by go_num, HX, HQw6, HBw6⟩, by simp [intOf]; omega⟩
    · obtain rfl : k = ws.length := by omega
      have hxk : ixF ws ws.length = ixOf ws := rfl
      rw [hxk] at HBK
      have hK1 := HK.out.ne
      have hKp : 0 < (ixOf ws).K.length := List.length_pos_iff.2 hK1
      have hil := HK.out.il
      obtain ⟨kb, c1, hkv, -, hkbl⟩ := HBK.out.ks.form (by rw [List.length_map]; exact hKp)
      obtain ⟨ib, c2, hiv, -, hibl⟩ := HBK.out.is.form (by rw [List.length_map, hil]; exact hKp)
      rw [List.length_map] at hkv hiv
      subst hkv hiv
      obtain ⟨A1', c1', e1, hC1⟩ := HBK.out.ks.reads rfl
      injection e1 with e1 _ ec
      subst e1 ec
      obtain ⟨A2', c2', e2, hC2⟩ := HBK.out.is.reads rfl
      injection e2 with e2 _ ec
      subst e2 ec
      have HBB := Lib.hid (build_any kb ib c1 c2 (ixOf ws).K (ixOf ws).I wr HK.out hC1 hC2)
      have HIL := Lib.hid hil
      clear hC1 hC2 hK1 hKp hil hkbl hibl hxk
      go_wp2_with fail
      refine HBB.out.mono ?_
      rintro e w5 ⟨g, A, rfl, ht, hg, hb5⟩
      have HT := Lib.hid ht
      have HB5 := Lib.hid (HBK.out.below hb5)
      have HBw5 : Hid (Below w.heap.size w w5) := Lib.hid (HB.out.trans (hb5.mono HB.out.size))
      have hx0 : w5.cell? ⟨rc + 1 + 1, 0, none⟩ = some (.slice none 0 0) := by rw [cell_of_heap HB5.out.xc]; rfl
      have hf0 : w5.frozen? ⟨rc + 1 + 1, 0, none⟩ = false := frozen_of_heap HB5.out.xc 0
      clear ht hg hb5 HBB
      go_upto_region 21 with fail
      obtain ⟨w6, hw6⟩ : ∃ w6, w6 = w5.setCell ⟨rc + 1 + 1, 0, none⟩ (.slice (some ⟨g, 0, none⟩) A.n A.n) := ⟨_, rfl⟩
      have hx6 : w6.heap[rc + 1 + 1]? = some (.cells #[.slice (some ⟨g, 0, none⟩) A.n A.n, .map (some (rc + 1))] tIdx (0, 0)) := by rw [hw6, heap_set HB5.out.xc]; rfl
      have hr6 : w6.heap[rc]? = some (.cells #[.slice none 0 0, .map none] tIdx (0, 0)) := by rw [hw6, heap_set_ne (by omega)]; exact HB5.out.rc
      have ht6 : Trie g A (ksAll (ixOf ws).K (ixOf ws).I) w6 := { HT.out with arr := by rw [hw6, heap_set_ne (typ_ne HT.out.arr HB5.out.xc (by decide))]; exact HT.out.arr }
      have hd6 : Dup (rc + 1) (ixOf ws).cnt w6 := (HB5.out.dup (by omega)).keep (by rw [hw6, heap_set_ne (by omega)])
      have hb6 : Below w.heap.size w w6 := by rw [hw6]; exact HBw5.out.setCell (p := ⟨rc + 1 + 1, 0, none⟩) (by have := HRC.out; show w.heap.size ≤ rc + 1 + 1; omega) _
      rw [← hw6]
      have hc0 : w6.cell? ⟨rc + 1 + 1, 0, none⟩ = some (.slice (some ⟨g, 0, none⟩) A.n A.n) := by rw [cell_of_heap hx6]; rfl
      have hc1 : w6.cell? ⟨rc + 1 + 1, 1, none⟩ = some (.map (some (rc + 1))) := by rw [cell_of_heap hx6]; rfl
      have hd0 : w6.cell? ⟨rc, 0, none⟩ = some (.slice none 0 0) := by rw [cell_of_heap hr6]; rfl
      have hd1 : w6.cell? ⟨rc, 1, none⟩ = some (.map none) := by rw [cell_of_heap hr6]; rfl
      have hg0 : w6.frozen? ⟨rc, 0, none⟩ = false := frozen_of_heap hr6 0
      have hg1 : w6.frozen? ⟨rc, 1, none⟩ = false := frozen_of_heap hr6 1
      have HX6 := Lib.hid hx6
      have HR6 := Lib.hid hr6
      have HT6 := Lib.hid ht6
      have HD6 := Lib.hid hd6
      have HB6 := Lib.hid hb6
      clear hw6 hx6 hr6 ht6 hd6 hb6 hx0 hf0 HB5 HT HBw5
      go_wp2_with fail
      have hr7 : (w6.setCell ⟨rc, 0, none⟩ (.slice (some ⟨g, 0, none⟩) A.n A.n)).heap[rc]? = some (.cells #[.slice (some ⟨g, 0, none⟩) A.n A.n, .map none] tIdx (0, 0)) := by rw [heap_set HR6.out]; rfl
      have hr8 : ((w6.setCell ⟨rc, 0, none⟩ (.slice (some ⟨g, 0, none⟩) A.n A.n)).setCell ⟨rc, 1, none⟩ (.map (some (rc + 1)))).heap[rc]? = some (.cells #[.slice (some ⟨g, 0, none⟩) A.n A.n, .map (some (rc + 1))] tIdx (0, 0)) := by rw [heap_set hr7]; rfl
      have hgn : g ≠ rc := typ_ne HT6.out.arr HR6.out (by decide)
      have ht8 : Trie g A (ksAll (ixOf ws).K (ixOf ws).I) ((w6.setCell ⟨rc, 0, none⟩ (.slice (some ⟨g, 0, none⟩) A.n A.n)).setCell ⟨rc, 1, none⟩ (.map (some (rc + 1)))) := { HT6.out with arr := by rw [heap_set_ne hgn, heap_set_ne hgn]; exact HT6.out.arr }
      have hd8 := HD6.out.keep (w' := (w6.setCell ⟨rc, 0, none⟩ (.slice (some ⟨g, 0, none⟩) A.n A.n)).setCell ⟨rc, 1, none⟩ (.map (some (rc + 1)))) (by rw [heap_set_ne (by omega), heap_set_ne (by omega)])
      have hb8 := (HB6.out.setCell (p := ⟨rc, 0, none⟩) (by have := HRC.out; show w.heap.size ≤ rc; omega) (.slice (some ⟨g, 0, none⟩) A.n A.n)).setCell (p := ⟨rc, 1, none⟩) (by have := HRC.out; show w.heap.size ≤ rc; omega) (.map (some (rc + 1)))
      have g0 : ((w6.setCell ⟨rc, 0, none⟩ (.slice (some ⟨g, 0, none⟩) A.n A.n)).setCell ⟨rc, 1, none⟩ (.map (some (rc + 1)))).cell? ⟨rc, 0, none⟩ = some (.slice (some ⟨g, 0, none⟩) A.n A.n) := by rw [cell_of_heap hr8]; rfl
      have g1 : ((w6.setCell ⟨rc, 0, none⟩ (.slice (some ⟨g, 0, none⟩) A.n A.n)).setCell ⟨rc, 1, none⟩ (.map (some (rc + 1)))).cell? ⟨rc, 1, none⟩ = some (.map (some (rc + 1))) := by rw [cell_of_heap hr8]; rfl
      generalize (w6.setCell ⟨rc, 0, none⟩ (.slice (some ⟨g, 0, none⟩) A.n A.n)).setCell ⟨rc, 1, none⟩ (.map (some (rc + 1))) = w8 at ht8 hd8 hb8 g0 g1 ⊢
      clear hr7 hr8
      exact bodyPost_ret (v := .tuple #[.agg #[.slice (some ⟨g, 0, none⟩) A.n A.n, .map (some (rc + 1))], .nilIface]) (by simp [results, Tryd.results66, go_sem, g0, g1]) rfl ⟨g, A, rc + 1, rfl, ht8, hd8, hb8⟩
end Go.Proofs.YteoljiclmhmbnaaDoor.Da

/-
  (UserDictRecords).NewUserDict: walked.
-/
set_option linter.unusedVariables false
set_option linter.unusedSimpArgs false
namespace Go.Proofs.YteoljiclmhmbnaaDoor.Tx
open Go.RowKit Go.Proofs.YteoljiclmhmbnaaDoor.K Go.Proofs.YteoljiclmhmbnaaDoorW.PrintWords

abbrev tUD : Nat := 94
abbrev tCo : Nat := 96
abbrev tIx : Nat := 91
abbrev Con : Type := List ByteArray × List ByteArray × ByteArray
def kCon : Kd Con := Kd.pair (Kd.slice 9 Kd.string) (Kd.pair (Kd.slice 9 Kd.string) Kd.string)
def con (u : Rec) : Con := (u.2.1, u.2.2.1, u.2.2.2)
theorem con_info (w : World) : (Tryd.prog.info? tCo).map (fun i => (i.zero, i.size, i.bytes)) = some (some (.agg #[.slice none 0 0, .slice none 0 0, .string ⟨#[]⟩]), (Kd.fixed kCon w).sz, 64) := by
  show _ = some (some (Value.agg #[.slice none 0 0, .slice none 0 0, .string ⟨#[]⟩]), 3, 64)
  kernel_rfl
theorem con_pos : 0 < kCon.sz := by decide
theorem con_K {w : World} {u : Con} {A1 A2 : Option Addr} {c1 c2 : Nat} (h1 : Kd.string.C w A1 u.1.length u.1) (l1 : u.1.length ≤ c1) (h2 : Kd.string.C w A2 u.2.1.length u.2.1) (l2 : u.2.1.length ≤ c2) :
    kCon.K w u [.slice A1 u.1.length c1, .slice A2 u.2.1.length c2, .string u.2.2] :=
  ⟨[.slice A1 u.1.length c1], [.slice A2 u.2.1.length c2, .string u.2.2], rfl, ⟨A1, c1, rfl, l1, h1⟩, [.slice A2 u.2.1.length c2], [.string u.2.2], rfl, ⟨A2, c2, rfl, l2, h2⟩, rfl⟩

/-- A text of letters alone: no white space, nothing beyond ASCII. -/
def plainA (s : ByteArray) : Prop := s.size ≠ 0 ∧ ∀ c ∈ s.data.toList, 32 < c.toNat ∧ c.toNat < 127
theorem dropWhile_id {α : Type} {p : α → Bool} : ∀ {l : List α}, (∀ x ∈ l, p x = false) → l.dropWhile p = l
  | [], _ => rfl
  | x :: r, h => by rw [List.dropWhile_cons_of_neg (by simp [h x (by simp)])]
theorem trim_plain {s : ByteArray} (h : plainA s) : (⟨(Lib.trimSpace s.data.toList).toArray⟩ : ByteArray) = s := by
  have hp : ∀ x ∈ s.data.toList, Lib.isSp x = false := fun x hx => by
    have := h.2 x hx
    have hk : ∀ k : UInt8, k.toNat ≤ 32 → (x == k) = false := fun k hk => by
      rw [beq_eq_false_iff_ne]
      rintro rfl
      omega
    unfold Lib.isSp
    rw [hk 9 (by decide), hk 10 (by decide), hk 11 (by decide), hk 12 (by decide), hk 13 (by decide), hk 32 (by decide)]
    rfl
  unfold Lib.trimSpace
  rw [dropWhile_id hp, dropWhile_id (fun x hx => hp x (List.mem_reverse.1 hx)), List.reverse_reverse]
theorem plainA_ascii {s : ByteArray} (h : plainA s) : ∀ (j : Nat) b, s.data.toList[j]? = some b → b.toNat < 128 := fun j b hb => by
  have := (h.2 b (List.mem_of_getElem? hb)).2
  omega
theorem plainA_ne {s : ByteArray} (h : plainA s) : (ByteArray.empty.toList == s.toList) = false := by
  rw [beq_eq_false_iff_ne]
  intro e
  apply h.1
  have : s.toList.length = 0 := by rw [← e, ByteArray.toList_eq]; rfl
  rw [ByteArray.toList_eq, Array.length_toList] at this
  exact this
def tabSp (w : World) : Prop := Lib.TabIs Tryd.prog w "strings.asciiSpace" .u8 Lib.asciiSpaceTab
theorem tabSp_below {w w' : World} (h : tabSp w) (hb : Below w.heap.size w w') : tabSp w' := Go.Joins.tab_stays (by kernel_rfl : Tryd.prog.globalNamed "strings.asciiSpace" = some 0) h hb (Nat.le_refl _)

/-- The text ahead of place k. -/
def prevT (S : List Rec) (k : Nat) : ByteArray := if k = 0 then ByteArray.empty else (S.getD (k - 1) default).1
/-- What the walk finds: a dictionary, or two equal texts. -/
def UDRet (S : List Rec) (w0 : World) (e : Ending) (w' : World) : Prop :=
  (∃ k, 0 < k ∧ k < S.length ∧ prevT S k = (S.getD k default).1 ∧ (∃ b : Nat, e = .returned (.tuple #[.pointer none, .iface 183 (.pointer (some ⟨b, 0, none⟩))])) ∧ Below w0.heap.size w0 w') ∨
  (∃ (p g : Nat) (A : Da.DA) (bm : Nat) (AC : Option Addr) (cC : Nat), (∀ k, 0 < k → k < S.length → prevT S k ≠ (S.getD k default).1) ∧ e = .returned (.tuple #[.pointer (some ⟨p, 0, none⟩), .nilIface]) ∧
    w'.heap[p]? = some (.cells #[.slice (some ⟨g, 0, none⟩) A.n A.n, .map (some bm), .slice AC S.length cC] tUD (0, 0)) ∧ S.length ≤ cC ∧ kCon.C w' AC S.length (S.map con) ∧
    Da.Trie g A (Da.ksAll (Da.ixOf (S.map (·.1))).K (Da.ixOf (S.map (·.1))).I) w' ∧ Da.Dup bm (Da.ixOf (S.map (·.1))).cnt w' ∧ Below w0.heap.size w0 w')

/-- The loop's memory: the words, and the contents in the dictionary at block p. -/
structure USt (S : List Rec) (w1 : World) (p k : Nat) (kv : Value) (wr : World) : Prop where
  ks : Kd.string.R 9 wr w1.heap.size (fun q => q ≠ p) kv ((S.take k).map (·.1))
  cs : ∃ vC, wr.heap[p]? = some (.cells #[.slice none 0 0, .map none, vC] tUD (0, 0)) ∧ (Kd.fixed kCon w1).R tCo wr w1.heap.size (fun q => q ≠ p) vC ((S.take k).map con)
  hb : Below w1.heap.size w1 wr
theorem USt.below {S : List Rec} {w1 wr w2 : World} {p k : Nat} {kv : Value} (h : USt S w1 p k kv wr) (hb : Below wr.heap.size wr w2) : USt S w1 p k kv w2 := by
  obtain ⟨vC, h1, h2⟩ := h.cs
  exact ⟨Kd.R_below h.ks hb, ⟨vC, (hb.block p (lt_of_heap h1)).trans h1, Kd.R_below h2 hb⟩, h.hb.trans (hb.mono h.hb.size)⟩
theorem USt.zero (S : List Rec) (w1 : World) (n : Nat) (hn : n ≤ 4000) : USt S w1 (w1.heap.size + 1) 0 (.slice (some ⟨w1.heap.size, 0, none⟩) 0 n) ((w1.alloc (.cells (madeCells #[.string ByteArray.empty] n) 9)).alloc (.cells #[.slice none 0 0, .map none, .slice none 0 0] tUD)) := by
  refine ⟨⟨fun q hq => ?_, [], World.ownsRow.alloc (World.ownsRow_made w1 _ n (Nat.le_refl _) (by unfold maxLen; omega) (by rw [size_madeCells]; exact (Nat.mul_one n).symm)) _, Reps.none _ _⟩, ⟨_, ?_, Kd.R_nil _ _ _ _ _⟩, ((Below.refl _ _).alloc (Nat.le_refl _) _).alloc (by simp) _⟩
  · simp [Value.ownBlock] at hq; omega
  · have h := heap_new (w1.alloc (.cells (madeCells #[.string ByteArray.empty] n) 9)) (.cells #[.slice none 0 0, .map none, .slice none 0 0] tUD)
    rwa [size_alloc] at h

theorem sumL_perm {a b : List ByteArray} (h : a.Perm b) : Da.sumL a = Da.sumL b := by
  induction h with
  | nil => rfl
  | cons x _ ih => simp only [Da.sumL, ih]
  | swap x y l => simp only [Da.sumL]; omega
  | trans _ _ h1 h2 => exact h1.trans h2
theorem ord_of {S : List Rec} (hpos : 0 < S.length) (ha : ∀ i j (hi : i < S.length) (hj : j < S.length), i < j → ¬ S[j].1.data.toList < S[i].1.data.toList) (hp : ∀ u ∈ S, plainA u.1) : Da.Ord (S.map (·.1)) false := by
  have hk : ∀ i (hi : i < S.length), Da.kAt (S.map (·.1)) i = S[i].1 := fun i hi => by
    rw [Da.kAt_eq (by simpa using hi)]; simp
  refine ⟨by intro e; rw [List.map_eq_nil_iff] at e; rw [e] at hpos; simp at hpos, fun i hi => ?_⟩
  have hi' : i < S.length := by simpa using hi
  have hpl := hp _ (List.getElem_mem hi')
  refine ⟨?_, ?_, fun h0 => ⟨?_, fun e => by cases e⟩⟩
  · rw [hk i hi']
    cases he : S[i].1.toList with
    | nil =>
      exfalso
      apply hpl.1
      rw [ByteArray.toList_eq] at he
      have := congrArg List.length he
      simpa using this
    | cons x r => rfl
  · rw [hk i hi']
    intro a ha
    unfold Da.bl at ha
    rw [List.mem_map] at ha
    obtain ⟨c, hc, rfl⟩ := ha
    have := hpl.2 c (by first | exact hc | (rw [← ByteArray.toList_eq]; exact hc) | (rw [ByteArray.toList_eq] at hc; exact hc))
    omega
  · rw [hk i hi', hk (i - 1) (by omega)]
    unfold Da.ltB
    rw [bytesLess_eq, ByteArray.toList_eq, ByteArray.toList_eq]
    exact decide_eq_false (ha (i - 1) i (by omega) hi' (by omega))
theorem ix_sum {ws : List ByteArray} (ho : Da.Ord ws false) (h : Da.sumL ws ≤ 4000) : Da.sumL (Da.ixOf ws).K ≤ 4000 := by
  have := (Da.ixF_inv ho ws.length (Nat.le_refl _)).sum
  rw [List.take_length] at this
  exact Nat.le_trans this h

/-- Ascending, and no two side by side equal: all different. -/
theorem nodup_of {S : List Rec} (ha : ∀ i j (hi : i < S.length) (hj : j < S.length), i < j → ¬ S[j].1.data.toList < S[i].1.data.toList) (hd : ∀ k, 0 < k → k < S.length → prevT S k ≠ (S.getD k default).1) : (S.map (·.1)).Nodup := by
  unfold List.Nodup
  rw [List.pairwise_iff_getElem]
  intro i j hi hj hij
  have hi' : i < S.length := by simpa using hi
  have hj' : j < S.length := by simpa using hj
  rw [List.getElem_map, List.getElem_map]
  intro heq
  refine hd (i + 1) (by omega) (by omega) ?_
  have h1 := ha i (i + 1) hi' (by omega) (by omega)
  have h2 : S[i + 1].1.data.toList ≤ S[i].1.data.toList := by
    rw [heq]
    by_cases e : i + 1 = j
    · subst e
      exact List.le_refl _
    · exact List.not_lt.1 (ha (i + 1) j (by omega) hj' (by omega))
  have h3 := List.le_antisymm (List.not_lt.1 h1) h2
  rw [prevT, if_neg (by omega)]
  simp only [Nat.add_sub_cancel, List.getD, List.getElem?_eq_getElem hi', List.getElem?_eq_getElem (show i + 1 < S.length by omega), Option.getD_some]
  exact ba_ext (Array.toList_inj.1 h3)

set_option maxHeartbeats 4000000 in
set_option maxRecDepth 100000 in
theorem newUD_any (v : Value) (xs : List Rec) (w0 w : World) (hpos : 0 < xs.length) (hl : xs.length ≤ 4000) (hR : kRec.R tDR w w0.heap.size (fun _ => True) v xs) (hB : Below w0.heap.size w0 w) (hsp : tabSp w0)
    (hpl : ∀ u ∈ xs, plainA u.1 ∧ u.1.size ≤ 4000 ∧ 1 ≤ u.2.1.length ∧ u.2.1.length = u.2.2.1.length) (hsum : (xs.map (·.1)).Nodup → Da.sumL (xs.map (·.1)) ≤ 4000) :
    Calls Tryd.prog 40 #[v] w (UDRet (sortR xs) w0) := by
  have hso := sortStable_any hpos hR (by omega)
  have HSO := Lib.hid hso
  have HB := Lib.hid hB
  have HSP := Lib.hid hsp
  obtain ⟨S, hS⟩ : ∃ S, S = sortR xs := ⟨_, rfl⟩
  have hSl : S.length = xs.length := by rw [hS]; exact sortR_length xs
  have hSp : S.Perm xs := by rw [hS]; exact sortR_perm xs
  have HPL := Lib.hid (fun u (hu : u ∈ S) => hpl u (hSp.mem_iff.1 hu))
  have HSUM : Hid ((S.map (·.1)).Nodup → Da.sumL (S.map (·.1)) ≤ 4000) := Lib.hid (fun h => by rw [sumL_perm (hSp.map _)]; exact hsum ((hSp.map _).nodup_iff.1 h))
  have HASC := Lib.hid (sortR_asc xs)
  rw [← hS] at HSO HASC ⊢
  have HOB := Lib.hid (own_base (Kd.R_own hR).choose_spec)
  have HSB := Lib.hid (fun (w1 : World) (h : w.grownBy w1 v.ownBlock) => hB.grown h hB.size HOB.out)
  obtain ⟨A, c, rfl⟩ := Kd.R_slice hR
  rw [← hSl] at hl hpos HSO HSB ⊢
  clear hso hR hB hsp hpl hS hSp hsum hSl
  go_enter Tryd.func40, Tryd.ntmps40
  go_wp2_with fail
  refine HSO.out.mono ?_
  rintro e w1 ⟨rfl, hR1, hg1⟩
  have HB1 := Lib.hid (HSB.out w1 hg1)
  have HSP1 := Lib.hid (tabSp_below HSP.out HB1.out)
  obtain ⟨A1, c1, hv1, hlc, hC1⟩ := Kd.R_reads hR1
  have HC1 := Lib.hid hC1
  clear hg1 HSB HSO HSP HOB
  have hmkS : ∀ W : World, (Instr.makeSlice 29 (.int .i64 0) (.int .i64 (S.length : Int))).run Tryd.prog W = .ok (.slice (some ⟨W.heap.size, 0, none⟩) 0 S.length) (W.alloc (.cells (madeCells #[.string ByteArray.empty] S.length) 9)) := fun W =>
    run_make_room (P := Tryd.prog) 29 9 (.string ByteArray.empty) 16 Tryd.underlying29 (by kernel_rfl) rfl .i64 .i64 S.length (by omega) (by omega) W
  cases hv1
  clear hR1 hC1
  have hm := HC1.out.2.1
  go_upto_region 5 with fail
  have HU := Lib.hid (USt.zero S w1 S.length (by omega))
  clear hmkS
  generalize (w1.alloc (.cells (madeCells #[.string ByteArray.empty] S.length) 9)).alloc (.cells #[.slice none 0 0, .map none, .slice none 0 0] tUD) = w2 at HU ⊢
  obtain ⟨p, hp⟩ : ∃ p, p = w1.heap.size + 1 := ⟨_, rfl⟩
  rw [← hp] at HU ⊢
  have HP := Lib.hid hp
  clear hp
  go_wp2
  go_loopw [4, 5, 20] (fun prev kv i wr => ∃ k : Nat, k ≤ S.length ∧ i = .int .i64 k ∧ prev = .string (prevT S k) ∧ Hid (USt S w1 p k kv wr) ∧ Hid (∀ j, 0 < j → j < k → prevT S j ≠ (S.getD j default).1)) (fun _ _ i _ => S.length - (intOf i).toNat)
  case atStart => exact ⟨0, Nat.zero_le _, rfl, rfl, HU, Lib.hid (fun j h1 h2 => by omega)⟩
  case round =>
    clear HU
    obtain ⟨k, hk, rfl, rfl, HU, HD⟩ := hrel
    by_cases hlt : k < S.length
    · obtain ⟨ad, B1, d1, B2, d2, rfl, s0, s1, s2, s3, g1, l1, g2, l2⟩ := recs_at HC1.out k hlt
      have hbel := HU.out.hb
      replace s0 := (hbel.cell (World.block_lt_of_cell? _ _ s0)).trans s0
      replace s1 := (hbel.cell (World.block_lt_of_cell? _ _ s1)).trans s1
      replace s2 := (hbel.cell (World.block_lt_of_cell? _ _ s2)).trans s2
      replace s3 := (hbel.cell (World.block_lt_of_cell? _ _ s3)).trans s3
      have HK := Lib.hid (con_K (u := con S[k]) g1 l1 g2 l2)
      have hpu := HPL.out _ (List.getElem_mem hlt)
      have HT := Lib.hid (List.take_succ_eq_append_getElem hlt)
      have HG := Lib.hid (show S.getD k default = S[k] by simp [List.getD, hlt])
      have htl : (S.take k).length = k := by rw [List.length_take]; omega
      generalize S[k] = u at *
      obtain ⟨a, ys, zs, d⟩ := u
      obtain ⟨hpa, hasz, hy1, hyz⟩ := hpu
      replace hasz : a.size ≤ 4000 := hasz
      replace hy1 : 1 ≤ ys.length := hy1
      have HYZ : Hid (ys.length = zs.length) := Lib.hid hyz
      clear hyz
      replace hpa : plainA a := hpa
      have HPA := Lib.hid hpa
      have HTS := Lib.hid (fun W h => Tryd.strings_TrimSpace a W (by omega) (plainA_ascii hpa) h)
      rw [trim_plain hpa] at HTS
      have hszr := hbel.size
      clear g1 l1 g2 l2 hbel hpa
      go_wp2_with fail
      obtain ⟨o, ho⟩ : ∃ o, o = Obj.cells #[.string a, .slice B1 ys.length d1, .slice B2 zs.length d2, .string d] tDR := ⟨_, rfl⟩
      rw [← ho]
      have HU3 := Lib.hid (HU.out.below ((Below.refl _ wr).alloc (Nat.le_refl _) o))
      refine (HTS.out _ (tabSp_below HSP1.out HU3.out.hb)).mono ?_
      rintro e w4 ⟨rfl, hw4⟩
      have hb4 : Below (wr.alloc o).heap.size (wr.alloc o) w4 := by rw [hw4]; exact Lib.bytesWorld_below _ _ _
      have hqq : ∀ j, (wr.alloc o).cell? ⟨wr.heap.size, j, none⟩ = (#[.string a, .slice B1 ys.length d1, .slice B2 zs.length d2, .string d] : Array Value)[j]? := fun j => by rw [ho]; exact cell_of_heap (heap_new wr _) j
      have q1 : w4.cell? ⟨wr.heap.size, 1, none⟩ = some (.slice B1 ys.length d1) := (hb4.cell (p := ⟨wr.heap.size, 1, none⟩) (by simp)).trans (hqq 1)
      have q2 : w4.cell? ⟨wr.heap.size, 2, none⟩ = some (.slice B2 zs.length d2) := (hb4.cell (p := ⟨wr.heap.size, 2, none⟩) (by simp)).trans (hqq 2)
      have q3 : w4.cell? ⟨wr.heap.size, 3, none⟩ = some (.string d) := (hb4.cell (p := ⟨wr.heap.size, 3, none⟩) (by simp)).trans (hqq 3)
      have HU4 := Lib.hid (HU3.out.below hb4)
      have HKB := Lib.hid (fun q e => ((own_lt (Kd.R_own HU.out.ks).choose_spec q e) : q < wr.heap.size))
      obtain ⟨vC, hvC, hRC⟩ := HU.out.cs
      have HCB := Lib.hid (fun q e => ((own_lt (Kd.R_own hRC).choose_spec q e) : q < wr.heap.size))
      have hb34 : Below wr.heap.size wr w4 := ((Below.refl _ wr).alloc (Nat.le_refl _) o).trans (hb4.mono (by simp))
      have HVC := Lib.hid ((hb34.block p (lt_of_heap hvC)).trans hvC)
      have HRC := Lib.hid (Kd.R_below hRC hb34)
      clear hvC hRC hb34
      clear hw4 hb4 hqq s0 s1 s2 s3 HTS HU HU3 ho
      generalize wr.heap.size = bx at q1 q2 q3 HKB HCB ⊢
      clear hszr
      by_cases heq : prevT S k = a
      · have hk0 : 0 < k := by
          rcases Nat.eq_zero_or_pos k with h | h
          · subst h
            exfalso
            have h1 := plainA_ne HPA.out
            rw [show prevT S 0 = ByteArray.empty from rfl] at heq
            rw [heq] at h1
            simp at h1
          · exact h
        have hq : ((prevT S k).toList == a.toList) = true := by rw [heq]; exact beq_self_eq_true _
        have HEQ := Lib.hid heq
        clear heq
        go_wp2_with fail
        refine (errNew_any _ _).mono ?_
        rintro e w5 ⟨rfl, rfl⟩
        have HB5 := Lib.hid (HB1.out.trans ((HU4.out.hb.alloc HU4.out.hb.size (.cells #[.string ⟨#[100, 117, 112, 108, 105, 99, 97, 116, 101, 100, 32, 101, 114, 114, 111, 114]⟩] 185)).mono HB1.out.size))
        go_wp2
        go_ret2
        exact .inl ⟨k, hk0, hlt, by rw [HG.out]; exact HEQ.out, ⟨_, rfl⟩, HB5.out⟩
      · have hq : ((prevT S k).toList == a.toList) = false := by
          rw [beq_eq_false_iff_ne]
          exact fun e => heq (ba_toList e)
        have HEQ := Lib.hid heq
        clear heq
        have hml : (List.map (fun x : Rec => x.1) (S.take k)).length = k := by rw [List.length_map]; exact htl
        have HML := Lib.hid hml
        have HTL := Lib.hid htl
        clear hml htl
        have hszr4 := HU4.out.hb.size
        have hplt := lt_of_heap HVC.out
        have hp1 : w1.heap.size ≤ p := by rw [HP.out]; omega
        go_wp2_with (at_builtin; refine kapp (w0 := w1) Kd.string w1.heap.size rfl _ _ 29 9 (.string ⟨#[]⟩) 16 rfl Tryd.underlying29 (by kernel_rfl) rfl (by decide) (by decide) _ ((S.take k).map (·.1)) a [.string a] (fun q => q ≠ p) (fun _ => False) w4.heap.size rfl rfl ?hg rfl (fun _ h => h.elim) (fun q hq => ?_) (Kd.R_alloc HU4.out.ks _) (HU4.out.hb.alloc hszr4 _) (by simp; omega) ?hl ?_)
        case hg => intro j u hj; rw [cell_of_heap (heap_new _ _)]; simpa using hj
        case hl => rw [HML.out]; omega
        · simp at hq; omega
        intro v5 w5 hK5 hB5 hg5 hat5
        have hbw : Below w4.heap.size w4 (w4.alloc (.cells #[.string a] 9)) := (Below.refl _ w4).alloc (Nat.le_refl _) _
        replace q1 := hg5.cell ((hbw.cell (World.block_lt_of_cell? _ _ q1)).trans q1) (fun e => absurd (HKB.out bx e.symm) (Nat.lt_irrefl _))
        replace q2 := hg5.cell ((hbw.cell (World.block_lt_of_cell? _ _ q2)).trans q2) (fun e => absurd (HKB.out bx e.symm) (Nat.lt_irrefl _))
        replace q3 := hg5.cell ((hbw.cell (World.block_lt_of_cell? _ _ q3)).trans q3) (fun e => absurd (HKB.out bx e.symm) (Nat.lt_irrefl _))
        have HRC5 := Lib.hid (Kd.R_over (Kd.R_alloc HRC.out (.cells #[.string a] 9)) (Kd.R_alloc HU4.out.ks (.cells #[.string a] 9)) (show ∀ q, q ∈ [tCo] → q ≠ 9 by decide) hg5)
        have HVC5 := Lib.hid ((hg5.block p (by simp; omega) (fun e => HU4.out.ks.1 p e.symm rfl)).trans ((hbw.block p hplt).trans HVC.out))
        have HK5 := Lib.hid hK5
        have HB5 := Lib.hid hB5
        have hszr5 := hB5.size
        have hplt5 := lt_of_heap HVC5.out
        clear hK5 hB5 hg5 hat5 hbw HVC HRC HU4 hplt hszr4 HKB
        have hp2 : w5.cell? ⟨p, 2, none⟩ = some vC := by rw [cell_of_heap HVC5.out]; rfl
        have hpf : w5.frozen? ⟨p, 2, none⟩ = false := frozen_of_heap HVC5.out 2
        have hz1 : ((ys.length : Int) == 0) = false := by rw [beq_eq_false_iff_ne]; omega
        have hz2 : ((ys.length : Int) != (zs.length : Int)) = false := by rw [bne_eq_false_iff_eq, HYZ.out]
        go_upto_region 16 with fail
        clear q1 q2 q3 hz1 hz2
        have hcl : ((S.take k).map con).length = k := by rw [List.length_map, HTL.out]
        have HCL := Lib.hid hcl
        clear hcl
        obtain ⟨w6, hw6⟩ : ∃ w6, w6 = w5.alloc (.cells #[.slice B1 ys.length d1, .slice B2 zs.length d2, .string d] tCo) := ⟨_, rfl⟩
        have ho0 : w6.cell? ⟨w5.heap.size, 0, none⟩ = some (.slice B1 ys.length d1) := by rw [hw6, cell_of_heap (heap_new w5 _)]; rfl
        have ho1 : w6.cell? ⟨w5.heap.size, 1, none⟩ = some (.slice B2 zs.length d2) := by rw [hw6, cell_of_heap (heap_new w5 _)]; rfl
        have ho2 : w6.cell? ⟨w5.heap.size, 2, none⟩ = some (.string d) := by rw [hw6, cell_of_heap (heap_new w5 _)]; rfl
        have hbw : Below w5.heap.size w5 w6 := by rw [hw6]; exact (Below.refl _ w5).alloc (Nat.le_refl _) _
        have HRC6 := Lib.hid (Kd.R_below HRC5.out hbw)
        have HK6 := Lib.hid (Kd.R_below HK5.out hbw)
        have HVC6 := Lib.hid ((hbw.block p hplt5).trans HVC5.out)
        have HB6 := Lib.hid (HB5.out.trans (hbw.mono hszr5))
        have hszr6 := HB6.out.size
        have hplt6 := lt_of_heap HVC6.out
        replace hp2 : w6.cell? ⟨p, 2, none⟩ = some vC := by rw [cell_of_heap HVC6.out]; rfl
        replace hpf : w6.frozen? ⟨p, 2, none⟩ = false := frozen_of_heap HVC6.out 2
        rw [← hw6]
        clear hw6 hbw HRC5 HK5 HVC5 HB5 hplt5 hszr5
        generalize w5.heap.size = by6 at ho0 ho1 ho2 ⊢
        go_wp2_with (at_builtin; refine kapp (w0 := w1) (Kd.fixed kCon w1) w1.heap.size rfl _ _ 92 tCo (.agg #[.slice none 0 0, .slice none 0 0, .string ⟨#[]⟩]) 64 rfl Tryd.underlying92 (con_info w1) rfl con_pos (by decide) _ ((S.take k).map con) (con (a, ys, zs, d)) [.slice B1 ys.length d1, .slice B2 zs.length d2, .string d] (fun q => q ≠ p) (fun _ => False) w6.heap.size rfl rfl ?hg HK.out (fun _ h => h.elim) (fun q hq => ?_) (Kd.R_alloc HRC6.out _) (HB6.out.alloc hszr6 _) (by simp; omega) ?hl ?_)
        case hg => intro j u hj; rw [cell_of_heap (heap_new _ _)]; simpa using hj
        case hl => rw [HCL.out]; omega
        · simp at hq; omega
        intro v7 w7 hC7 hB7 hg7 hat7
        have hbw : Below w6.heap.size w6 (w6.alloc (.cells #[.slice B1 ys.length d1, .slice B2 zs.length d2, .string d] tCo)) := (Below.refl _ w6).alloc (Nat.le_refl _) _
        have HK7 := Lib.hid (Kd.R_over (Kd.R_alloc HK6.out (.cells #[.slice B1 ys.length d1, .slice B2 zs.length d2, .string d] tCo)) (Kd.R_alloc HRC6.out (.cells #[.slice B1 ys.length d1, .slice B2 zs.length d2, .string d] tCo)) (show ∀ q, q ∈ [9] → q ≠ tCo by decide) hg7)
        have HVC7 := Lib.hid ((hg7.block p (by simp; omega) (fun e => HRC6.out.1 p e.symm rfl)).trans ((hbw.block p hplt6).trans HVC6.out))
        replace hp2 : w7.cell? ⟨p, 2, none⟩ = some vC := by rw [cell_of_heap HVC7.out]; rfl
        replace hpf : w7.frozen? ⟨p, 2, none⟩ = false := frozen_of_heap HVC7.out 2
        obtain ⟨A7, c7, rfl⟩ := Kd.R_slice hC7
        have e7 : (List.map con (S.take k) ++ [con (a, ys, zs, d)]).length = k + 1 := by rw [List.length_append, HCL.out]; rfl
        rw [← List.map_take, e7] at hC7
        have HC7 := Lib.hid hC7
        clear e7
        have HB7 := Lib.hid hB7
        clear hbw hC7 hB7 hg7 hat7 HK6 HRC6 HVC6 HB6 ho0 ho1 ho2
        go_wp2
        refine ⟨⟨k + 1, by omega, by go_num, ?_, Lib.hid ⟨?_, ⟨.slice A7 (k + 1) c7, ?_, ?_⟩, HB7.out.setCell hp1 _⟩, Lib.hid (fun j h1 h2 => ?_)⟩, by simp [intOf]; omega⟩
        · rw [prevT, if_neg (by omega), show k + 1 - 1 = k by omega, HG.out]
        · rw [HT.out, List.map_append]
          have hk7 := HK7.out
          rw [← List.map_take] at hk7
          exact Kd.R_far hk7 (p := ⟨p, 2, none⟩) (fun q hq => hq) _
        · rw [heap_set HVC7.out]
          rfl
        · rw [HT.out, List.map_append]
          exact Kd.R_far HC7.out (p := ⟨p, 2, none⟩) (fun q hq => hq) _
        · rcases Nat.lt_or_ge j k with h3 | h3
          · exact HD.out j h1 h3
          · obtain rfl : j = k := by omega
            rw [HG.out]
            exact HEQ.out
    · obtain rfl : k = S.length := by omega
      have hks := HU.out.ks
      obtain ⟨vC, hvC, hRC⟩ := HU.out.cs
      rw [List.take_length] at hks hRC
      obtain ⟨A2, c2, hv2, hl2, hC2⟩ := Kd.R_reads hks
      subst hv2
      obtain ⟨AC, cC, hv3⟩ := Kd.R_slice hRC
      subst hv3
      have hord : Da.Ord (S.map (·.1)) false := ord_of hpos HASC.out (fun u hu => (HPL.out u hu).1)
      have hml : (S.map fun x : Rec => x.1).length = S.length := List.length_map _
      have hcl : (S.map con).length = S.length := List.length_map _
      have HIX := Lib.hid (Da.ixBuild_any A2 c2 (S.map (·.1)) wr hord hC2 (by rw [hml]; omega) (ix_sum hord (HSUM.out (nodup_of HASC.out HD.out))))
      rw [hcl] at hvC hRC
      rw [hml] at HIX ⊢
      have HB2 := Lib.hid (HB1.out.trans (HU.out.hb.mono HB1.out.size))
      have HRC := Lib.hid hRC
      have HU1 := Lib.hid HU.out.hb
      have HVC := Lib.hid hvC
      have hpl := lt_of_heap hvC
      have hp1 : w1.heap.size ≤ p := by rw [HP.out]; omega
      clear hks hRC hC2 hvC hord hml hcl HU hl2
      go_wp2_with fail
      refine HIX.out.mono ?_
      rintro e w8 ⟨g, DAA, bm, rfl, hT, hD, hb8⟩
      have HVC8 := Lib.hid ((hb8.block p hpl).trans HVC.out)
      have HT := Lib.hid hT
      have HDu := Lib.hid hD
      have HB8 := Lib.hid (HB2.out.trans (hb8.mono HB2.out.size))
      have HC8 := Lib.hid (Kd.R_below HRC.out hb8)
      have HU8 := Lib.hid (HU1.out.trans (hb8.mono HU1.out.size))
      have hp8 := lt_of_heap HVC8.out
      have hpo : w0.heap.size ≤ p := Nat.le_trans HB1.out.size hp1
      obtain ⟨w9, hw9⟩ : ∃ w9, w9 = w8.alloc (.cells #[.slice (some ⟨g, 0, none⟩) DAA.n DAA.n, .map (some bm)] tIx) := ⟨_, rfl⟩
      have hb9 : Below w8.heap.size w8 w9 := by rw [hw9]; exact (Below.refl _ w8).alloc (Nat.le_refl _) _
      have hv9 := (hb9.block p hp8).trans HVC8.out
      have hi0 : w9.cell? ⟨w8.heap.size, 0, none⟩ = some (.slice (some ⟨g, 0, none⟩) DAA.n DAA.n) := by rw [hw9, cell_of_heap (heap_new w8 _)]; rfl
      have hi1 : w9.cell? ⟨w8.heap.size, 1, none⟩ = some (.map (some bm)) := by rw [hw9, cell_of_heap (heap_new w8 _)]; rfl
      have hc0 : w9.cell? ⟨p, 0, none⟩ = some (.slice none 0 0) := by rw [cell_of_heap hv9]; rfl
      have hc1 : w9.cell? ⟨p, 1, none⟩ = some (.map none) := by rw [cell_of_heap hv9]; rfl
      have hf0 : w9.frozen? ⟨p, 0, none⟩ = false := frozen_of_heap hv9 0
      have hf1 : w9.frozen? ⟨p, 1, none⟩ = false := frozen_of_heap hv9 1
      have HV9 := Lib.hid hv9
      have HT9 := Lib.hid (HT.out.below hb9)
      have HD9 := Lib.hid (HDu.out.below hb9)
      have HC9 := Lib.hid (Kd.R_below HC8.out hb9)
      have HU9 := Lib.hid (HU8.out.trans (hb9.mono HU8.out.size))
      have HB9 := Lib.hid (HB8.out.trans (hb9.mono HB8.out.size))
      have hgp : g ≠ p := by
        rintro rfl
        have := HT9.out.arr
        rw [HV9.out] at this
        injection this with this
        injection this with _ this
        exact absurd this (by decide)
      clear hT hD hb8 HVC HB2 HRC HVC8 HB8 HC8 hb9 hv9 hpl HT HDu HU1 HU8
      go_upto_region 19 with fail
      rw [← hw9]
      clear hw9
      generalize w8.heap.size = b8 at hi0 hi1 ⊢
      go_wp2
      go_ret2
      have hbm : bm ≠ p := by
        obtain ⟨n, D, _, hm, _⟩ := HD9.out
        obtain ⟨es, cl, h1⟩ := Da.mapAt hm
        rintro rfl
        rw [HV9.out] at h1
        cases h1
      have hfar : ∀ k, k ≠ p → ((w9.setCell ⟨p, 0, none⟩ (.slice (some ⟨g, 0, none⟩) DAA.n DAA.n)).setCell ⟨p, 1, none⟩ (.map (some bm))).heap[k]? = w9.heap[k]? := fun k hk => by
        rw [heap_set_ne hk, heap_set_ne hk]
      have hR9 := Kd.R_far (Kd.R_far HC9.out (p := ⟨p, 0, none⟩) (fun q hq => hq) (.slice (some ⟨g, 0, none⟩) DAA.n DAA.n)) (p := ⟨p, 1, none⟩) (fun q hq => hq) (.map (some bm))
      obtain ⟨A', c', hv, hlv, hCv⟩ := Kd.R_reads hR9
      rw [List.length_map] at hv hlv hCv
      cases hv
      refine .inr ⟨p, g, DAA, bm, AC, cC, HD.out, rfl, ?_, hlv, fixed_C hCv ((HU9.out.setCell hp1 _).setCell hp1 _), { HT9.out with arr := (hfar g hgp).trans HT9.out.arr }, HD9.out.keep (hfar bm hbm), (HB9.out.setCell hpo _).setCell hpo _⟩
      rw [heap_set (heap_set HV9.out 0 _) 1 _]
      rfl
end Go.Proofs.YteoljiclmhmbnaaDoor.Tx

/-
  impl.UserDict: walked.
-/
set_option linter.unusedVariables false
set_option linter.unusedSimpArgs false
namespace Go.Proofs.YteoljiclmhmbnaaDoor.Tx
open Go.RowKit Go.Proofs.YteoljiclmhmbnaaDoor.K Go.Proofs.YteoljiclmhmbnaaDoorW.PrintWords

/-- A record without its word. -/
def unT (u : Rec) : Rec := (ByteArray.empty, u.2.1, u.2.2.1, u.2.2.2)
theorem unT_len (S : List Rec) : (S.map unT).length = S.length := List.length_map _
theorem con_at {w : World} {A : Option Addr} {n : Nat} {xs : List Con} (h : kCon.C w A n xs) : ∀ j (hj : j < xs.length), ∃ ad A1 c1 A2 c2, A = some ad ∧
    w.cell? (ad.add (j * 3)) = some (.slice A1 xs[j].1.length c1) ∧ w.cell? ⟨(ad.add (j * 3)).block, (ad.add (j * 3)).off + 1, none⟩ = some (.slice A2 xs[j].2.1.length c2) ∧ w.cell? ⟨(ad.add (j * 3)).block, (ad.add (j * 3)).off + 2, none⟩ = some (.string xs[j].2.2) ∧
    Kd.string.C w A1 xs[j].1.length xs[j].1 ∧ xs[j].1.length ≤ c1 ∧ Kd.string.C w A2 xs[j].2.1.length xs[j].2.1 ∧ xs[j].2.1.length ≤ c2 := by
  intro j hj
  obtain ⟨ad, hA, hc⟩ := h.2.2 (by have := h.1; omega)
  obtain ⟨c, hl, hk, hcell⟩ := hc j xs[j] (List.getElem?_eq_getElem hj)
  obtain ⟨_, _, rfl, ⟨A1, c1, rfl, h1, hC1⟩, _, _, rfl, ⟨A2, c2, rfl, h2, hC2⟩, rfl⟩ := hk
  have e : kCon.sz = 3 := rfl
  rw [e] at hcell
  have h0 := hcell 0 _ rfl
  have h1' := hcell 1 _ rfl
  have h2' := hcell 2 _ rfl
  rw [Nat.add_zero] at h0
  rw [add_field _ _ _ (by decide)] at h1' h2'
  exact ⟨ad, A1, c1, A2, c2, hA, h0, h1', h2', hC1, h1, hC2, h2⟩
theorem ixOkc {ws : List ByteArray} (ho : Da.Ord ws false) (hl : ws.length ≤ 100000) : (∀ x ∈ Da.ksAll (Da.ixOf ws).K (Da.ixOf ws).I, Da.Okc (Da.ixOf ws).cnt x.2) ∧ Da.Okc (Da.ixOf ws).cnt 0 := by
  have h := Da.ixF_inv ho ws.length (Nat.le_refl _)
  have hp : 0 < ws.length := List.length_pos_iff.2 ho.1
  have hc : ∀ j : Nat, j < ws.length → Da.Okc (Da.ixOf ws).cnt (j : Int) := fun j hj => ⟨j, rfl, by have := h.cb j hj; show j + (Da.ixF ws ws.length).cnt j ≤ _; omega, by have := h.cb j hj; show (Da.ixF ws ws.length).cnt j ≤ _; omega⟩
  refine ⟨fun x hx => ?_, hc 0 hp⟩
  have hm := Da.mem_ids (p := x.1) (id := x.2) h.len hx
  have h2 := h.ids _ hm
  have := hc x.2.toNat (by omega)
  rwa [show ((x.2.toNat : Nat) : Int) = x.2 by omega] at this

/-- Records of which a dictionary can be built. -/
structure OkUD (xs : List Rec) : Prop where
  pos : 0 < xs.length
  len : xs.length ≤ 4000
  pl : ∀ u ∈ xs, plainA u.1 ∧ u.1.size ≤ 4000 ∧ 1 ≤ u.2.1.length ∧ u.2.1.length = u.2.2.1.length
  sm : ∀ u ∈ xs, u.2.1.length ≤ 20
  sum : (xs.map (·.1)).Nodup → Da.sumL (xs.map (·.1)) ≤ 4000
def UDictRet (S : List Rec) (inputs : List ByteArray) (w : World) (e : Ending) (w' : World) : Prop :=
  (∃ k, 0 < k ∧ k < S.length ∧ prevT S k = (S.getD k default).1 ∧ e = .returned (.tuple #[.slice none 0 0, .slice none 0 0, .int .i64 1]) ∧ Below w.heap.size w w') ∨
  (∃ (A : Option Addr) (c : Nat) (va : Value), (∀ k, 0 < k → k < S.length → prevT S k ≠ (S.getD k default).1) ∧ e = .returned (.tuple #[.slice A S.length c, va, .int .i64 0]) ∧ S.length ≤ c ∧ kRec.C w' A S.length (S.map unT) ∧
    Da.kIAns.R Da.tIAns w' w.heap.size (fun _ => True) va (inputs.map (Da.ansK (Da.ixOf (S.map (·.1))).cnt (Da.ksAll (Da.ixOf (S.map (·.1))).K (Da.ixOf (S.map (·.1))).I))) ∧ Below w.heap.size w w')

set_option maxHeartbeats 4000000 in
set_option maxRecDepth 100000 in
theorem userDict_any (A : Option Addr) (c : Nat) (xs : List Rec) (Ai : Option Addr) (ci : Nat) (inputs : List ByteArray) (w : World) (hC : kRec.C w A xs.length xs) (hok : OkUD xs) (hsp : tabSp w) (hI : Kd.string.C w Ai inputs.length inputs)
    (hin : ∀ s ∈ inputs, (∀ a ∈ Da.bl s, 1 ≤ a) ∧ s.size ≤ 10000000) (hil : inputs.length ≤ 2147483647) :
    Calls Tryd.prog 12 #[.slice A xs.length c, .slice Ai inputs.length ci] w (UDictRet (sortR xs) inputs w) := by
  have HREC := Lib.hid (implRecords_any A c xs w hC (fun u hu => by have := hok.sm u hu; have := (hok.pl u hu).2.2.2; omega) (by have := hok.len; omega))
  have HNEW := Lib.hid (fun v w1 hR hB => newUD_any v xs w w1 hok.pos hok.len hR hB hsp hok.pl hok.sum)
  have hord : Da.Ord ((sortR xs).map (·.1)) false := ord_of (by rw [sortR_length]; exact hok.pos) (sortR_asc xs) (fun u hu => (hok.pl u ((sortR_perm xs).mem_iff.1 hu)).1)
  obtain ⟨hk1, hk0⟩ := ixOkc hord (by rw [List.length_map, sortR_length]; have := hok.len; omega)
  have hSl : (sortR xs).length ≤ 4000 := by rw [sortR_length]; exact hok.len
  generalize sortR xs = S at hord hk1 hk0 hSl HNEW ⊢
  have HK1 := Lib.hid hk1
  have HK0 := Lib.hid hk0
  have HI := Lib.hid hI
  have HIN := Lib.hid hin
  clear hC hok hsp hI hin hord hk1 hk0
  go_enter Tryd.func12, Tryd.ntmps12
  go_wp2_with fail
  refine HREC.out.mono ?_
  rintro e w1 ⟨v1, rfl, hR1, hb1⟩
  have HN := Lib.hid (HNEW.out v1 w1 hR1 hb1)
  clear hR1 hb1 HNEW HREC
  go_wp2_with fail
  refine HN.out.mono ?_
  rintro e w2 (⟨k, hk0, hkl, hke, ⟨b, rfl⟩, hb2⟩ | ⟨p, g, DAA, bm, AC, cC, hdis, rfl, hp, hlC, hC2, hT, hD, hb2⟩)
  · have HKE := Lib.hid hke
    have HB2 := Lib.hid hb2
    clear hke hb2
    go_wp2
    go_ret3
    exact .inl ⟨k, hk0, hkl, HKE.out, rfl, HB2.out⟩
  · have HDIS := Lib.hid hdis
    have HP := Lib.hid hp
    have HC2 := Lib.hid hC2
    have HT := Lib.hid hT
    have HD := Lib.hid hD
    have HB2 := Lib.hid hb2
    have hp0 : w2.cell? ⟨p, 0, none⟩ = some (.slice (some ⟨g, 0, none⟩) DAA.n DAA.n) := by rw [cell_of_heap hp]; rfl
    have hp1 : w2.cell? ⟨p, 1, none⟩ = some (.map (some bm)) := by rw [cell_of_heap hp]; rfl
    have hp2 : w2.cell? ⟨p, 2, none⟩ = some (.slice AC S.length cC) := by rw [cell_of_heap hp]; rfl
    have hm := hC2.2.1
    clear hdis hp hC2 hT hD hb2 HN
    go_wp2
    go_loopw [9, 27] (fun ov i wr => ∃ k : Nat, k ≤ S.length ∧ i = .int .i64 k ∧ Hid ((Kd.fixed kRec w2).R 31 wr w2.heap.size (fun _ => True) ov ((S.take k).map unT)) ∧ Hid (Below w2.heap.size w2 wr)) (fun _ i _ => S.length - (intOf i).toNat)
    case atStart => exact ⟨0, Nat.zero_le _, rfl, Lib.hid (Kd.R_nil _ _ _ _ _), Lib.hid (Below.refl _ _)⟩
    case round =>
      obtain ⟨k, hk, rfl, hR, hbel⟩ := hrel
      have hszr := hbel.out.size
      by_cases hlt : k < S.length
      · obtain ⟨ad, A1, c1, A2, c2, rfl, s0, s1, s2, g1, l1, g2, l2⟩ := con_at HC2.out k (by simpa using hlt)
        replace s0 := (hbel.out.cell (World.block_lt_of_cell? _ _ s0)).trans s0
        replace s1 := (hbel.out.cell (World.block_lt_of_cell? _ _ s1)).trans s1
        replace s2 := (hbel.out.cell (World.block_lt_of_cell? _ _ s2)).trans s2
        have he : (S.map con)[k]'(by simpa using hlt) = con S[k] := by simp
        rw [he] at s0 s1 s2 g1 l1 g2 l2
        have HK := Lib.hid (rec_K (u := unT S[k]) g1 l1 g2 l2)
        have HTK := Lib.hid (List.take_succ_eq_append_getElem hlt)
        have htl : ((S.take k).map unT).length = k := by rw [List.length_map, List.length_take]; omega
        have HTL := Lib.hid htl
        clear htl he g1 l1 g2 l2
        generalize S[k] = u at *
        obtain ⟨a, ys, zs, d⟩ := u
        replace s0 : wr.cell? (ad.add (k * 3)) = some (.slice A1 ys.length c1) := s0
        replace s1 : wr.cell? ⟨(ad.add (k * 3)).block, (ad.add (k * 3)).off + 1, none⟩ = some (.slice A2 zs.length c2) := s1
        replace s2 : wr.cell? ⟨(ad.add (k * 3)).block, (ad.add (k * 3)).off + 2, none⟩ = some (.string d) := s2
        go_wp2_with (at_builtin; refine kapp (w0 := w2) (Kd.fixed kRec w2) w2.heap.size rfl _ _ 22 31 (.agg #[.string ⟨#[]⟩, .slice none 0 0, .slice none 0 0, .string ⟨#[]⟩]) 80 rfl Tryd.underlying22 (fix_info w2) rfl rec_pos (by decide) _ ((S.take k).map unT) (unT (a, ys, zs, d)) [.string ⟨#[]⟩, .slice A1 ys.length c1, .slice A2 zs.length c2, .string d] (fun _ => True) (fun _ => False) _ rfl rfl ?hg HK.out (fun _ h => h.elim) (fun _ _ => trivial) (Kd.R_alloc (Kd.R_alloc hR.out _) _) ((hbel.out.alloc hszr _).alloc (by simp; omega) _) (by simp; omega) ?hl ?_)
        case hg => intro j u hj; rw [box1]; simpa using hj
        case hl => rw [HTL.out]; omega
        intro v5 w5 hR5 hB5 hg5 hat5
        rw [← List.map_take] at hR5
        have HR5 := Lib.hid hR5
        have HB5 := Lib.hid hB5
        clear hR5 hB5 hg5 hat5
        go_wp2
        exact ⟨⟨k + 1, by omega, by go_num, Lib.hid (by rw [HTK.out, List.map_append]; exact HR5.out), HB5⟩, by simp [intOf]; omega⟩
      · obtain rfl : k = S.length := by omega
        have h := hR.out
        rw [List.take_length] at h
        obtain ⟨A', c', hv, hl', hC'⟩ := Kd.R_reads h
        rw [List.length_map] at hv hl' hC'
        subst hv
        have HC' := Lib.hid (fixed_C hC' hbel.out)
        replace hp0 := (hbel.out.cell (World.block_lt_of_cell? _ _ hp0)).trans hp0
        replace hp1 := (hbel.out.cell (World.block_lt_of_cell? _ _ hp1)).trans hp1
        have HBB := Lib.hid (HB2.out.trans (hbel.out.mono HB2.out.size))
        have HAS := Lib.hid (Da.indexAsk_any g bm DAA (Da.ixOf (S.map (·.1))).cnt (Da.ksAll (Da.ixOf (S.map (·.1))).K (Da.ixOf (S.map (·.1))).I) Ai ci inputs wr (HT.out.below hbel.out) (HD.out.below hbel.out) HK1.out HK0.out (Kd.C_below HI.out HBB.out) HIN.out hil)
        clear h hC' hR hbel HT HD
        go_wp2_with fail
        refine HAS.out.mono ?_
        rintro e w6 ⟨va, rfl, hva, hb6⟩
        have HVA := Lib.hid (Kd.R_lower hva HBB.out.size)
        have HB6 := Lib.hid (HBB.out.trans (hb6.mono HBB.out.size))
        have HC6 := Lib.hid (Kd.C_below HC'.out hb6)
        clear hva hb6 HAS HC'
        go_wp2
        go_ret3
        exact .inr ⟨A', c', va, HDIS.out, rfl, hl', HC6.out, HVA.out, HB6.out⟩
end Go.Proofs.YteoljiclmhmbnaaDoor.Tx
