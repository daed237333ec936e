/-
  The walk of impl.indexAsk.
-/
import Derived.Test.YtjifoimkjgepcaaVd
set_option linter.unusedVariables false
set_option linter.unusedSimpArgs false
namespace Go.Proofs.Ytjifoimkjgepcaa.Da
open Go.RowKit Go.ChangeShapes Go.Proofs.Ytjifoimkjgepcaa.K Go.Proofs.YtjifoimkjgepcaaW.PrintWords Go.Maps

abbrev tIL : Nat := 64
def kIAns : Kd IAns := Kd.pair (Kd.slice tInt (Kd.int .i64)) (Kd.pair (Kd.slice tInt (Kd.int .i64)) (Kd.pair (Kd.slice tSl kRows) (Kd.slice tHit kHit)))
theorem ians_M {w : World} {base : Nat} {ok : Nat → Prop} {a : IAns} {v0 v1 v2 v3 : Value} (h0 : (Kd.int .i64).R tInt w base ok v0 a.1) (h1 : (Kd.int .i64).R tInt w base ok v1 a.2.1) (h2 : kRows.R tSl w base ok v2 a.2.2.1) (h3 : kHit.R tHit w base ok v3 a.2.2.2) :
    kIAns.M w base ok a [v0, v1, v2, v3] :=
  ⟨[v0], [v1, v2, v3], rfl, ⟨v0, rfl, h0⟩, [v1], [v2, v3], rfl, ⟨v1, rfl, h1⟩, [v2], [v3], rfl, ⟨v2, rfl, h2⟩, ⟨v3, rfl, h3⟩⟩
theorem infoIAns : (Try.prog.info? tIAns).map (fun i => (i.zero, i.size, i.bytes)) = some (some (.agg #[.slice none 0 0, .slice none 0 0, .slice none 0 0, .slice none 0 0]), kIAns.sz, 96) := by
  show _ = some (some (Value.agg #[.slice none 0 0, .slice none 0 0, .slice none 0 0, .slice none 0 0]), 4, 96)
  kernel_rfl
theorem IAt.set {ab : Nat} {a0 a1 a2 v : Value} {w : World} (h : IAt ab a0 a1 a2 v w) (u : Value) : IAt ab u a1 a2 v (w.setCell ⟨ab, 0, none⟩ u) := by
  unfold IAt
  rw [heap_set h 0 u]
  rfl
theorem IAt.set12 {ab : Nat} {a0 a1 a2 v : Value} {w : World} (h : IAt ab a0 a1 a2 v w) (u u' : Value) : IAt ab a0 u u' v ((w.setCell ⟨ab, 1, none⟩ u).setCell ⟨ab, 2, none⟩ u') := by
  unfold IAt
  rw [heap_set (heap_set h 1 u) 2 u']
  rfl
theorem IAt.c {ab : Nat} {a0 a1 a2 v : Value} {w : World} (h : IAt ab a0 a1 a2 v w) : w.cell? ⟨ab, 0, none⟩ = some a0 ∧ w.cell? ⟨ab, 1, none⟩ = some a1 ∧ w.cell? ⟨ab, 2, none⟩ = some a2 ∧ w.cell? ⟨ab, 3, none⟩ = some v :=
  ⟨by rw [cell_of_heap h]; rfl, by rw [cell_of_heap h]; rfl, by rw [cell_of_heap h]; rfl, by rw [cell_of_heap h]; rfl⟩
theorem IAt.f {ab : Nat} {a0 a1 a2 v : Value} {w : World} (h : IAt ab a0 a1 a2 v w) (j : Nat) : w.frozen? ⟨ab, j, none⟩ = false := frozen_of_heap h j
theorem IAt.below {ab : Nat} {a0 a1 a2 v : Value} {w w' : World} (h : IAt ab a0 a1 a2 v w) (hb : Below w.heap.size w w') : IAt ab a0 a1 a2 v w' := (hb.block ab (lt_of_heap h)).trans h
theorem find_okc {cnt : Nat → Nat} {ks : Ks} (h : ∀ x ∈ ks, Okc cnt x.2) (h0 : Okc cnt 0) (s : List Nat) : Okc cnt (findF ks s).1 := by
  unfold findF
  split
  · exact h0
  · split
    · exact h0
    · cases hf : firstE (walkK s ks) with
      | none => exact h0
      | some id => exact h _ (mem_walkK.1 (firstE_some hf))
theorem iask_idle (p q : Addr) (w : World) :
    CallsD Try.prog 79 #[.pointer (some p), .pointer (some q)] .returning w fun e u' w' => e = .returned (.tuple #[]) ∧ u' = .returning ∧ w' = w := by
  refine callsD_of_wpS Try.func79 rfl fun c₀ cs hu => ?_
  apply wpS_seq
  apply wpS_region
  simp [wpOpsS, go_sem, recoverD, hu, Try.ntmps79, Exit.thenS]
  refine wpS_cond (t := false) (by simp [Act.eval, Array.replicate]) ?_
  simp only [Bool.false_eq_true, if_false]
  refine wpS_of_wp (wp_skip ?_)
  cases c₀
  simp_all [bodyPostS, results, Try.results79]
/-- What an index of these keys answers. -/
def ansK (cnt : Nat → Nat) (ks : Ks) (s : ByteArray) : IAns := (idsF cnt (findF ks (bl s)), (hitsF ks (bl s) 0).map (·.2), listsF cnt (hitsF ks (bl s) 0), callsF cnt (hitsF ks (bl s) 0))

set_option maxHeartbeats 2000000 in
set_option maxRecDepth 100000 in
theorem indexAsk_any (g bm : Nat) (A : DA) (cnt : Nat → Nat) (ks : Ks) (Ai : Option Addr) (ci : Nat) (inputs : List ByteArray) (w : World) (ht : Trie g A ks w) (hd : Dup bm cnt w) (hid : ∀ x ∈ ks, Okc cnt x.2) (h0 : Okc cnt 0) (hC : Kd.string.C w Ai inputs.length inputs)
    (hcl : ∀ s ∈ inputs, (∀ a ∈ bl s, 1 ≤ a) ∧ s.size ≤ 10000000) (hl : inputs.length ≤ 2147483647) :
    Calls Try.prog 55 #[.agg #[.slice (some ⟨g, 0, none⟩) A.n A.n, .map (some bm)], .slice Ai inputs.length ci] w fun e w' => ∃ v, e = .returned (.tuple #[v, .int .i64 0]) ∧ kIAns.R tIAns w' w.heap.size (fun _ => True) v (inputs.map (ansK cnt ks)) ∧ Below w.heap.size w w' := by
  have hmf : ∀ (fn : Fn) (first cap : Array Value) (w : World), (Instr.makeFunc fn first cap).run Try.prog w = .ok (.func fn first cap) w := fun _ _ _ _ => rfl
  have hid0 : ∀ x ∈ ks, 0 ≤ x.2 := fun x hx => by obtain ⟨j, hj, _⟩ := hid x hx; omega
  have HT := Lib.hid ht
  have HD := Lib.hid hd
  have HID := Lib.hid hid
  have HID0 := Lib.hid hid0
  have H0 := Lib.hid h0
  have HC := Lib.hid hC
  have HCL := Lib.hid hcl
  clear ht hid hC hcl hd h0 hid0
  go_enter_defers Try.func55, Try.ntmps55
  go_wp2_with fail
  obtain ⟨bx, hbx⟩ : ∃ bx, bx = w.heap.size := ⟨_, rfl⟩
  obtain ⟨w1, hw1⟩ : ∃ w1, w1 = ((w.alloc (.cells #[.slice (some ⟨g, 0, none⟩) A.n A.n, .map (some bm)] tIdx)).alloc (.cells #[.slice none 0 0] tIL)).alloc (.cells #[.int .i64 0] tInt) := ⟨_, rfl⟩
  have hx1 : w1.heap[bx]? = some (.cells #[.slice (some ⟨g, 0, none⟩) A.n A.n, .map (some bm)] tIdx (0, 0)) := by rw [hw1, hbx]; exact heap_old (heap_old (heap_new _ _) _) _
  have ho1 : w1.heap[bx + 1]? = some (.cells #[.slice none 0 0] tIL (0, 0)) := by
    have := heap_new (w.alloc (.cells #[.slice (some ⟨g, 0, none⟩) A.n A.n, .map (some bm)] tIdx)) (.cells #[.slice none 0 0] tIL)
    rw [size_alloc, ← hbx] at this
    rw [hw1]; exact heap_old this _
  have he1 : w1.heap[bx + 2]? = some (.cells #[.int .i64 0] tInt (0, 0)) := by
    have := heap_new ((w.alloc (.cells #[.slice (some ⟨g, 0, none⟩) A.n A.n, .map (some bm)] tIdx)).alloc (.cells #[.slice none 0 0] tIL)) (.cells #[.int .i64 0] tInt)
    rw [size_alloc, size_alloc, ← hw1, ← hbx] at this
    exact this
  have hb1 : Below w.heap.size w w1 := by rw [hw1]; exact (((Below.refl _ _).alloc (Nat.le_refl _) _).alloc (by simp) _).alloc (by simp; omega) _
  have hs1 : w1.heap.size = bx + 3 := by rw [hw1, hbx]; simp
  have HX1 := Lib.hid hx1
  have HO1 := Lib.hid ho1
  have HE1 := Lib.hid he1
  have HB1 := Lib.hid hb1
  have HS1 := Lib.hid hs1
  have HBX := Lib.hid hbx
  rw [← hbx, ← hw1]
  clear hw1 ho1 he1 hb1 hs1 hbx hx1
  go_loopw [7, 8, 12] (fun _ _ iv wr => ∃ (k : Nat) (v : Value), k ≤ inputs.length ∧ iv = .int .i64 k ∧ Hid (wr.heap[bx]? = some (.cells #[.slice (some ⟨g, 0, none⟩) A.n A.n, .map (some bm)] tIdx (0, 0))) ∧ Hid (wr.heap[bx + 1]? = some (.cells #[v] tIL (0, 0))) ∧ Hid (wr.heap[bx + 2]? = some (.cells #[.int .i64 0] tInt (0, 0))) ∧ Hid (kIAns.R tIAns wr (bx + 3) (fun _ => True) v ((inputs.take k).map (ansK cnt ks))) ∧ Hid (bx + 3 ≤ wr.heap.size) ∧ Hid (Below w.heap.size w wr)) (fun _ _ iv _ => inputs.length - (intOf iv).toNat)
  case atStart => exact ⟨0, _, Nat.zero_le _, rfl, HX1, HO1, HE1, Lib.hid (Kd.R_nil _ _ _ _ _), Lib.hid (by rw [HS1.out]; exact Nat.le_refl _), HB1⟩
  case round =>
    obtain ⟨k, v, hk, rfl, HX, HO, HE, HR, HS, HB⟩ := hrel
    by_cases hlt : k < inputs.length
    · obtain ⟨ad, rfl, hx⟩ := strs_at HC.out k hlt
      have hs1 := (HB.out.cell (World.block_lt_of_cell? w _ hx)).trans hx
      obtain ⟨hcl, hsz⟩ := HCL.out _ (List.getElem_mem hlt)
      have htk : (inputs.take (k + 1)).map (ansK cnt ks) = (inputs.take k).map (ansK cnt ks) ++ [ansK cnt ks inputs[k]] := by
        rw [List.take_succ_eq_append_getElem hlt, List.map_append]; rfl
      have HTK := Lib.hid htk
      have HCL1 := Lib.hid hcl
      obtain ⟨s, hs⟩ : ∃ s, s = inputs[k] := ⟨_, rfl⟩
      rw [← hs] at hs1 hsz HCL1 HTK
      clear hx htk hcl hs
      have hLl : ((inputs.take k).map (ansK cnt ks)).length = k := by rw [List.length_map, List.length_take]; omega
      generalize (inputs.take k).map (ansK cnt ks) = L at HR HTK hLl
      obtain ⟨ab, hab⟩ : ∃ ab, ab = wr.heap.size := ⟨_, rfl⟩
      obtain ⟨w2, hw2⟩ : ∃ w2, w2 = wr.alloc (.cells #[.slice none 0 0, .slice none 0 0, .slice none 0 0, .slice none 0 0] tIAns) := ⟨_, rfl⟩
      have hA2 : IAt ab (.slice none 0 0) (.slice none 0 0) (.slice none 0 0) (.slice none 0 0) w2 := by rw [hw2, hab]; exact heap_new _ _
      have hb2 : Below wr.heap.size wr w2 := by rw [hw2]; exact (Below.refl _ _).alloc (Nat.le_refl _) _
      have hs2 : w2.heap.size = ab + 1 := by rw [hw2, hab]; simp
      have hbxl : bx < wr.heap.size := lt_of_heap HX.out
      have hx2 := (hb2.block bx hbxl).trans HX.out
      have hc0 : w2.cell? ⟨bx, 0, none⟩ = some (.slice (some ⟨g, 0, none⟩) A.n A.n) := by rw [cell_of_heap hx2]; rfl
      have hc1 : w2.cell? ⟨bx, 1, none⟩ = some (.map (some bm)) := by rw [cell_of_heap hx2]; rfl
      have HA2 := Lib.hid hA2
      have HB2 := Lib.hid hb2
      have HS2 := Lib.hid hs2
      have hoks : Okc cnt (findF ks (bl s)).1 := find_okc HID.out H0.out _
      have HF := Lib.hid (ixSearch_any g A ks bm cnt s w2 ((HT.out.below HB.out).below hb2) HID0.out HCL1.out (by omega) ((HD.out.below HB.out).below hb2) (by obtain ⟨j, h1, h2, _⟩ := hoks; exact ⟨j, h1, h2⟩))
      have HAB := Lib.hid hab
      go_upto_region 6 with fail
      rw [← hw2, ← hab]
      clear hw2 hab hA2 hb2 hs2 hx2 hoks
      go_wp2_with fail
      refine HF.out.mono ?_
      rintro e w3 ⟨v3, rfl, ho3, hb3⟩
      obtain ⟨A3, c3, rfl, -⟩ := ho3.reads rfl
      have hA3 := HA2.out.below hb3
      have HB3 := Lib.hid (HB2.out.trans (hb3.mono HB2.out.size))
      have hok3 : ∀ q, w2.heap.size ≤ q → ab + 1 ≤ q := fun q hq => by have := HS2.out; omega
      have HR3 := Lib.hid (own_R ho3 hok3)
      obtain ⟨hd0, hd1, hd2, hd3⟩ := hA3.c
      have hf0 := hA3.f 0
      have HA3 := Lib.hid hA3
      clear hd1 hd2 hd3 hA3 hb3 HF ho3 hc0 hc1
      go_upto_region 7 with fail
      generalize hw4 : World.setCell _ _ _ = w4
      have hwr : wr.heap.size ≤ ab := by rw [HAB.out]; exact Nat.le_refl _
      have hA4 : IAt ab (.slice A3 (idsF cnt (findF ks (bl s))).length c3) (.slice none 0 0) (.slice none 0 0) (.slice none 0 0) w4 := by rw [← hw4]; exact HA3.out.set _
      have HB4 : Hid (Below wr.heap.size wr w4) := Lib.hid (by subst hw4; exact HB3.out.setCell (p := ⟨ab, 0, none⟩) hwr _)
      have HR4 : Hid ((Kd.int .i64).R tInt w4 w2.heap.size (fun q => ab + 1 ≤ q) (.slice A3 (idsF cnt (findF ks (bl s))).length c3) (idsF cnt (findF ks (bl s)))) := Lib.hid (by subst hw4; exact Kd.R_set HR3.out HA3.out (by decide) 0 _)
      have HA4 := Lib.hid hA4
      have hx4 := (HB4.out.block bx hbxl).trans HX.out
      have hc0 : w4.cell? ⟨bx, 0, none⟩ = some (.slice (some ⟨g, 0, none⟩) A.n A.n) := by rw [cell_of_heap hx4]; rfl
      have hc1 : w4.cell? ⟨bx, 1, none⟩ = some (.map (some bm)) := by rw [cell_of_heap hx4]; rfl
      have hokh : ∀ h ∈ hitsF ks (bl s) 0, ∃ j : Nat, h.1 = (j : Int) ∧ j + cnt j ≤ 2147483640 := fun h hh => by
        obtain ⟨p, hp⟩ := hits_mem _ _ _ _ hh
        obtain ⟨j, h1, h2, _⟩ := HID.out _ hp
        exact ⟨j, h1, h2⟩
      have HCM := Lib.hid (ixCommon_any g A ks bm cnt s w4 ((HT.out.below HB.out).below HB4.out) HID0.out HCL1.out (by omega) ((HD.out.below HB.out).below HB4.out) hokh)
      clear hw4 hA4 hd0 hf0 HB3 HR3 HA3 hx4 hokh
      go_wp2_with fail
      refine HCM.out.mono ?_
      rintro e w5 ⟨v1, v2, rfl, ho1, hr2, hb5⟩
      obtain ⟨A1, c1, rfl, -⟩ := ho1.reads (n := (hitsF ks (bl s) 0).length) (by rw [List.length_map])
      obtain ⟨A2, c2, rfl⟩ := Kd.R_slice hr2
      have hs24 : w2.heap.size ≤ w4.heap.size := by
        have := lt_of_heap HA4.out
        have := HS2.out
        omega
      have hok5 : ∀ q, w4.heap.size ≤ q → ab + 1 ≤ q := fun q hq => by have := HS2.out; omega
      have HR51 := Lib.hid (Kd.R_lower (own_R ho1 hok5) hs24)
      have HR52 : Hid (kRows.R tSl w5 w2.heap.size (fun q => ab + 1 ≤ q) (.slice A2 (listsF cnt (hitsF ks (bl s) 0)).length c2) (listsF cnt (hitsF ks (bl s) 0))) := Lib.hid (Kd.R_lower (Kd.R_mono (Kd.R_bound hr2) (fun q hq => hok5 q hq.2.1)) hs24)
      have HR53 := Lib.hid (Kd.R_below HR4.out hb5)
      have hA5 := HA4.out.below hb5
      have HB5 := Lib.hid (HB4.out.trans (hb5.mono HB4.out.size))
      obtain ⟨hd0, hd1, hd2, hd3⟩ := hA5.c
      have hf1 := hA5.f 1
      have hf2 := hA5.f 2
      have HA5 := Lib.hid hA5
      clear hd0 hd3 hA5 hb5 HCM hc0 hc1 ho1 hr2 hs24 hok5
      go_upto_region 8 with fail
      generalize hw6 : World.setCell (World.setCell _ _ _) _ _ = w6
      have hA6 := HA5.out.set12 (.slice A1 (hitsF ks (bl s) 0).length c1) (.slice A2 (listsF cnt (hitsF ks (bl s) 0)).length c2)
      rw [hw6] at hA6
      have hset : ∀ {α : Type} {d : Kd α} {e : Nat} {v : Value} {xs : List α} (h : d.R e w5 w2.heap.size (fun q => ab + 1 ≤ q) v xs) (ht : ∀ q, q ∈ e :: d.E → q ≠ tIAns), d.R e w6 w2.heap.size (fun q => ab + 1 ≤ q) v xs := fun h ht => by
        subst hw6
        exact Kd.R_set (Kd.R_set h HA5.out ht 1 _) (heap_set HA5.out 1 _) ht 2 _
      have HR61 := Lib.hid (hset HR51.out (by decide))
      have HR62 := Lib.hid (hset HR52.out (by decide))
      have HR63 := Lib.hid (hset HR53.out (by decide))
      have HB6 : Hid (Below wr.heap.size wr w6) := Lib.hid (by subst hw6; exact (HB5.out.setCell (p := ⟨ab, 1, none⟩) hwr _).setCell (p := ⟨ab, 2, none⟩) hwr _)
      have hx6 := (HB6.out.block bx hbxl).trans HX.out
      have hc0 : w6.cell? ⟨bx, 0, none⟩ = some (.slice (some ⟨g, 0, none⟩) A.n A.n) := by rw [cell_of_heap hx6]; rfl
      have hc1 : w6.cell? ⟨bx, 1, none⟩ = some (.map (some bm)) := by rw [cell_of_heap hx6]; rfl
      have hbml : bm < w.heap.size := HD.out.lt
      have HA6 := Lib.hid hA6
      have HCB := Lib.hid (ixCall_any bm ab cnt _ _ _ g A ks s w6 ((HD.out.below HB.out).below HB6.out) ((HT.out.below HB.out).below HB6.out) HID.out HCL1.out hsz hA6 (by have := HB.out.size; omega))
      clear hw6 hA6 hd1 hd2 hf1 hf2 HB5 hx6 hset HR51 HR52 HR53
      go_wp2_with fail
      refine HCB.out.mono ?_
      rintro e w10 ⟨rfl, v10, hA10, hr10, hk10⟩
      obtain ⟨A10, c10, rfl⟩ := Kd.R_slice hr10
      obtain ⟨Av, cv, rfl⟩ := Kd.R_slice HR.out
      rw [hLl] at HR HO
      have hab6 : ab < w6.heap.size := lt_of_heap HA6.out
      have hkeep : ∀ {α : Type} {d : Kd α} {e : Nat} {v : Value} {xs : List α} (h : d.R e w6 w2.heap.size (fun q => ab + 1 ≤ q) v xs), d.R e w10 (bx + 3) (fun q => wr.heap.size ≤ q) v xs := fun h =>
        Kd.R_lower (Kd.R_mono (Kd.R_step h (fun q hq hlt => hk10.block q hlt (by omega) (by omega))) (fun q hq => by omega)) (by have := HB2.out.size; have := HS.out; omega)
      have hR1 := hkeep HR61.out
      have hR2 := hkeep HR62.out
      have hR0 := hkeep HR63.out
      have hR3 : kHit.R tHit w10 (bx + 3) (fun q => wr.heap.size ≤ q) (.slice A10 (callsF cnt (hitsF ks (bl s) 0)).length c10) (callsF cnt (hitsF ks (bl s) 0)) :=
        Kd.R_lower (Kd.R_mono (Kd.R_bound hr10) (fun q hq => by have := hq.2.1; have := HB6.out.size; omega)) (by have := HB6.out.size; have := HS.out; omega)
      have hB10 : Below wr.heap.size wr w10 := HB6.out.trans (hk10.below hwr hwr HB6.out.size)
      have hbol : bx + 1 < wr.heap.size := lt_of_heap HO.out
      have ho10 : w10.heap[bx + 1]? = some (.cells #[.slice Av k cv] tIL (0, 0)) := (hB10.block (bx + 1) hbol).trans HO.out
      have hco : w10.cell? ⟨bx + 1, 0, none⟩ = some (.slice Av k cv) := by rw [cell_of_heap ho10]; rfl
      obtain ⟨hc0', hc1', hc2', hc3'⟩ := hA10.c
      have HO10 := Lib.hid ho10
      have HB10 := Lib.hid hB10
      have HR10 := Lib.hid (Kd.R_below HR.out hB10)
      have HM10 : Hid (∀ o : Obj, kIAns.M (w10.alloc o) (bx + 3) (fun k => wr.heap.size ≤ k) (ansK cnt ks s) [.slice A3 (idsF cnt (findF ks (bl s))).length c3, .slice A1 (hitsF ks (bl s) 0).length c1, .slice A2 (listsF cnt (hitsF ks (bl s) 0)).length c2, .slice A10 (callsF cnt (hitsF ks (bl s) 0)).length c10]) :=
        Lib.hid (fun o => ians_M (Kd.R_alloc hR0 o) (Kd.R_alloc hR1 o) (Kd.R_alloc hR2 o) (Kd.R_alloc hR3 o))
      have HV : Hid (∀ j, wr.heap.size ≤ j → some j ≠ (Value.slice Av k cv).ownBlock) := Lib.hid (fun j hj e => by have := Kd.R_lt HR.out j e.symm; omega)
      have HL10 : Hid (bx + 3 ≤ w10.heap.size) := Lib.hid (Nat.le_trans HS.out HB10.out.size)
      clear hr10 hk10 hA10 hR0 hR1 hR2 hR3 hkeep hB10 ho10 hab6 HCB hc0 hc1 HR61 HR62 HR63
      go_wp2_with (at_builtin; refine kapp (w0 := w10) kIAns (bx + 3) rfl _ _ tIL tIAns (.agg #[.slice none 0 0, .slice none 0 0, .slice none 0 0, .slice none 0 0]) 96 rfl Try.underlying64 infoIAns rfl (by decide) (by decide) _ L (ansK cnt ks s) [.slice A3 (idsF cnt (findF ks (bl s))).length c3, .slice A1 (hitsF ks (bl s) 0).length c1, .slice A2 (listsF cnt (hitsF ks (bl s) 0)).length c2, .slice A10 (callsF cnt (hitsF ks (bl s) 0)).length c10] (fun _ => True) (fun k => wr.heap.size ≤ k) w10.heap.size rfl rfl ?hg (HM10.out _) (fun j hj => ⟨trivial, HV.out j hj⟩) (fun _ _ => trivial) (Kd.R_alloc HR10.out _) ((Below.refl _ _).alloc HL10.out _) (by have := HL10.out; simp; omega) ?hl ?_)
      case hg =>
        intro j u hj
        rw [cell_of_heap (heap_new w10 _)]
        simpa using hj
      case hl => omega
      intro v11 w11 hown hb11 hgr hat
      obtain ⟨A11, c11, rfl⟩ := Kd.R_slice hown
      have hlenk : (L ++ [ansK cnt ks s]).length = k + 1 := by rw [List.length_append, hLl]; rfl
      rw [hlenk] at hown ⊢
      have hx11 : w11.heap[bx]? = some (.cells #[.slice (some ⟨g, 0, none⟩) A.n A.n, .map (some bm)] tIdx (0, 0)) := (hb11.block bx (by omega)).trans ((HB10.out.block bx hbxl).trans HX.out)
      have ho11 : w11.heap[bx + 1]? = some (.cells #[.slice Av k cv] tIL (0, 0)) := (hb11.block (bx + 1) (by omega)).trans HO10.out
      have he11 : w11.heap[bx + 2]? = some (.cells #[.int .i64 0] tInt (0, 0)) := (hb11.block (bx + 2) (by omega)).trans ((HB10.out.block (bx + 2) (lt_of_heap HE.out)).trans HE.out)
      have hc11 : w11.cell? ⟨bx + 1, 0, none⟩ = some (.slice Av k cv) := by rw [cell_of_heap ho11]; rfl
      have hf11 : w11.frozen? ⟨bx + 1, 0, none⟩ = false := frozen_of_heap ho11 0
      have HX11 := Lib.hid hx11
      have HO11 := Lib.hid ho11
      have HE11 := Lib.hid he11
      have HR11 := Lib.hid hown
      have HL11 : Hid (bx + 3 ≤ w11.heap.size) := Lib.hid (Nat.le_trans HL10.out hb11.size)
      have HB11 : Hid (Below w.heap.size w w11) := Lib.hid ((HB.out.trans (HB10.out.mono HB.out.size)).trans (hb11.mono (by have := HBX.out; omega)))
      clear hown hb11 hgr hat ho11 he11 hx11 hc0' hc1' hc2' hc3' hco
      go_wp2_with fail
      refine ⟨⟨k + 1, .slice A11 (k + 1) c11, by omega, by go_num, Lib.hid ?_, Lib.hid ?_, Lib.hid ?_, Lib.hid ?_, Lib.hid ?_, Lib.hid ?_⟩, by simp [intOf]; omega⟩
      · rw [heap_set_ne (by omega)]; exact HX11.out
      · rw [heap_set HO11.out]; rfl
      · rw [heap_set_ne (by omega)]; exact HE11.out
      · rw [HTK.out]; exact Kd.R_set HR11.out HO11.out (by decide) 0 _
      · rw [size_set]; exact HL11.out
      · exact HB11.out.setCell (p := ⟨bx + 1, 0, none⟩) (by have := HBX.out; show w.heap.size ≤ bx + 1; omega) _
    · obtain rfl : k = inputs.length := by omega
      have hr := HR.out
      rw [List.take_length] at hr
      obtain ⟨Av, cv, rfl⟩ := Kd.R_slice hr
      rw [List.length_map] at hr HO
      have hco : wr.cell? ⟨bx + 1, 0, none⟩ = some (.slice Av inputs.length cv) := by rw [cell_of_heap HO.out]; rfl
      have hce : wr.cell? ⟨bx + 2, 0, none⟩ = some (.int .i64 0) := by rw [cell_of_heap HE.out]; rfl
      have hfo : wr.frozen? ⟨bx + 1, 0, none⟩ = false := frozen_of_heap HO.out 0
      have hfe : wr.frozen? ⟨bx + 2, 0, none⟩ = false := frozen_of_heap HE.out 0
      have HR1 := Lib.hid hr
      clear hr
      go_wp2_with fail
      have hR2 : kIAns.R tIAns ((wr.setCell ⟨bx + 1, 0, none⟩ (.slice Av inputs.length cv)).setCell ⟨bx + 2, 0, none⟩ (.int .i64 0)) w.heap.size (fun _ => True) (.slice Av inputs.length cv) (inputs.map (ansK cnt ks)) := by
        have hne : (wr.setCell ⟨bx + 1, 0, none⟩ (.slice Av inputs.length cv)).heap[bx + 2]? = some (.cells #[.int .i64 0] tInt (0, 0)) := by rw [heap_set_ne (by omega)]; exact HE.out
        have h1 := Kd.R_set HR1.out HO.out (by decide) 0 (.slice Av inputs.length cv)
        exact Kd.R_lower (Kd.R_mono (Kd.R_step (Kd.R_bound h1) (fun q hq _ => heap_set_ne (by have := hq.2.1; omega) 0 _)) (fun _ _ => trivial)) (by have := HBX.out; omega)
      have hB2 : Below w.heap.size w ((wr.setCell ⟨bx + 1, 0, none⟩ (.slice Av inputs.length cv)).setCell ⟨bx + 2, 0, none⟩ (.int .i64 0)) :=
        (HB.out.setCell (p := ⟨bx + 1, 0, none⟩) (by have := HBX.out; show w.heap.size ≤ bx + 1; omega) _).setCell (p := ⟨bx + 2, 0, none⟩) (by have := HBX.out; show w.heap.size ≤ bx + 2; omega) _
      have hw1 : ((wr.setCell ⟨bx + 1, 0, none⟩ (.slice Av inputs.length cv)).setCell ⟨bx + 2, 0, none⟩ (.int .i64 0)).cell? ⟨bx + 1, 0, none⟩ = some (.slice Av inputs.length cv) := by
        rw [cell_of_heap (c := #[.slice Av inputs.length cv]) (t := tIL) (f := (0, 0)) (by rw [heap_set_ne (by omega), heap_set HO.out]; rfl)]; rfl
      have hw2 : ((wr.setCell ⟨bx + 1, 0, none⟩ (.slice Av inputs.length cv)).setCell ⟨bx + 2, 0, none⟩ (.int .i64 0)).cell? ⟨bx + 2, 0, none⟩ = some (.int .i64 0) := by
        rw [cell_of_heap (c := #[.int .i64 0]) (t := tInt) (f := (0, 0)) (by rw [heap_set (c := #[.int .i64 0]) (t := tInt) (f := (0, 0)) (by rw [heap_set_ne (by omega)]; exact HE.out)]; rfl)]; rfl
      refine leaves_cons (f := 79) (args := #[.pointer (some ⟨bx + 1, 0, none⟩), .pointer (some ⟨bx + 2, 0, none⟩)]) (by simp) (by simp [go_sem]) ?_
      refine (iask_idle ⟨bx + 1, 0, none⟩ ⟨bx + 2, 0, none⟩ _).mono ?_
      rintro e u' w'' ⟨rfl, rfl, rfl⟩
      have HR2 := Lib.hid hR2
      have HB2 := Lib.hid hB2
      generalize (wr.setCell ⟨bx + 1, 0, none⟩ (.slice Av inputs.length cv)).setCell ⟨bx + 2, 0, none⟩ (.int .i64 0) = w9 at hw1 hw2 HR2 HB2 ⊢
      simp [Leaves, settle, results, Try.results55, go_sem, hw1, hw2]
      exact ⟨HR2.out, HB2.out⟩
end Go.Proofs.Ytjifoimkjgepcaa.Da
