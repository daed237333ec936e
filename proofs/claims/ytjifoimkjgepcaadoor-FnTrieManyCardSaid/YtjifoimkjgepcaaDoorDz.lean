/-
  The walk of impl.trieAsk.
-/
import Derived.Test.YtjifoimkjgepcaaDoorDp
import Derived.Test.YtjifoimkjgepcaaDoorDr
import Derived.Defers
import Derived.Recover
set_option linter.unusedVariables false
set_option linter.unusedSimpArgs false
namespace Go.Proofs.YtjifoimkjgepcaaDoor.Da
open Go.RowKit Go.ChangeShapes Go.Proofs.YtjifoimkjgepcaaDoor.K Go.Proofs.YtjifoimkjgepcaaDoorW.PrintWords

abbrev Ans := (Int × Bool) × ((Int × Bool) × (List Hit × List Hit))
def kFound : Kd (Int × Bool) := Kd.pair (Kd.int .i64) Kd.bool
def kAns : Kd Ans := Kd.pair kFound (Kd.pair kFound (Kd.pair (Kd.slice tHit kHit) (Kd.slice tHit kHit)))
/-- What a trie answers to an input. -/
def ansF (ks : Ks) (s : ByteArray) : Ans := (findF ks (bl s), lastF (hitsF ks (bl s) 0), hitsF ks (bl s) 0, hitsF ks (bl s) 0)
theorem ans_M {w : World} {base : Nat} {ok : Nat → Prop} {f l : Int × Bool} {H1 H2 : List Hit} {v1 v2 : Value} (h1 : kHit.R tHit w base ok v1 H1) (h2 : kHit.R tHit w base ok v2 H2) :
    kAns.M w base ok (f, l, H1, H2) [.int .i64 f.1, .bool f.2, .int .i64 l.1, .bool l.2, v1, v2] :=
  ⟨[.int .i64 f.1, .bool f.2], [.int .i64 l.1, .bool l.2, v1, v2], rfl, ⟨[.int .i64 f.1], [.bool f.2], rfl, rfl, rfl⟩, [.int .i64 l.1, .bool l.2], [v1, v2], rfl, ⟨[.int .i64 l.1], [.bool l.2], rfl, rfl, rfl⟩, [v1], [v2], rfl, ⟨v1, rfl, h1⟩, ⟨v2, rfl, h2⟩⟩
theorem infoAns : (Tryd.prog.info? tAns).map (fun i => (i.zero, i.size, i.bytes)) = some (some (.agg #[.int .i64 0, .bool false, .int .i64 0, .bool false, .slice none 0 0, .slice none 0 0]), kAns.sz, 80) := by
  show _ = some (some (Value.agg #[.int .i64 0, .bool false, .int .i64 0, .bool false, .slice none 0 0, .slice none 0 0]), 6, 80)
  kernel_rfl
theorem OwnI.reads {base n : Nat} {v : Value} {xs : List Int} {w : World} (h : OwnI base v xs w) (hn : xs.length = n) : ∃ A c, v = .slice A n c ∧ (Kd.int .i64).C w A n xs := by
  have h1 : w.ownsRow base tInt 1 v xs.length (encs (Value.int .i64) xs) := by
    have h2 := h
    unfold OwnI at h2
    rw [List.length_map] at h2
    exact h2
  have hr : (Kd.int .i64).R tInt w base (fun _ => True) v xs := Kd.R_of_own h1 (fun _ _ => trivial)
  obtain ⟨A, c, h3, _, h4⟩ := Kd.R_reads hr
  subst hn
  exact ⟨A, c, h3, h4⟩
theorem AnsAt.set0 {ab : Nat} {a0 a1 a2 a3 a4 v : Value} {w : World} (h : AnsAt ab a0 a1 a2 a3 a4 v w) (u u' : Value) : AnsAt ab u u' a2 a3 a4 v ((w.setCell ⟨ab, 0, none⟩ u).setCell ⟨ab, 1, none⟩ u') := by
  unfold AnsAt
  rw [heap_set (heap_set h 0 u) 1 u']
  rfl
theorem AnsAt.set2 {ab : Nat} {a0 a1 a2 a3 a4 v : Value} {w : World} (h : AnsAt ab a0 a1 a2 a3 a4 v w) (u u' : Value) : AnsAt ab a0 a1 u u' a4 v ((w.setCell ⟨ab, 2, none⟩ u).setCell ⟨ab, 3, none⟩ u') := by
  unfold AnsAt
  rw [heap_set (heap_set h 2 u) 3 u']
  rfl
theorem AnsAt.set4 {ab : Nat} {a0 a1 a2 a3 a4 v : Value} {w : World} (h : AnsAt ab a0 a1 a2 a3 a4 v w) (u : Value) : AnsAt ab a0 a1 a2 a3 u v (w.setCell ⟨ab, 4, none⟩ u) := by
  unfold AnsAt
  rw [heap_set h 4 u]
  rfl
theorem AnsAt.c {ab : Nat} {a0 a1 a2 a3 a4 v : Value} {w : World} (h : AnsAt ab a0 a1 a2 a3 a4 v w) : w.cell? ⟨ab, 0, none⟩ = some a0 ∧ w.cell? ⟨ab, 1, none⟩ = some a1 ∧ w.cell? ⟨ab, 2, none⟩ = some a2 ∧ w.cell? ⟨ab, 3, none⟩ = some a3 ∧ w.cell? ⟨ab, 4, none⟩ = some a4 ∧ w.cell? ⟨ab, 5, none⟩ = some v :=
  ⟨by rw [cell_of_heap h]; rfl, by rw [cell_of_heap h]; rfl, by rw [cell_of_heap h]; rfl, by rw [cell_of_heap h]; rfl, by rw [cell_of_heap h]; rfl, by rw [cell_of_heap h]; rfl⟩
theorem AnsAt.f {ab : Nat} {a0 a1 a2 a3 a4 v : Value} {w : World} (h : AnsAt ab a0 a1 a2 a3 a4 v w) (j : Nat) : w.frozen? ⟨ab, j, none⟩ = false := frozen_of_heap h j
theorem AnsAt.below {ab : Nat} {a0 a1 a2 a3 a4 v : Value} {w w' : World} (h : AnsAt ab a0 a1 a2 a3 a4 v w) (hb : Below w.heap.size w w') : AnsAt ab a0 a1 a2 a3 a4 v w' := (hb.block ab (lt_of_heap h)).trans h
theorem ask_idle (p q : Addr) (w : World) :
    CallsD Tryd.prog 41 #[.pointer (some p), .pointer (some q)] .returning w fun e u' w' => e = .returned (.tuple #[]) ∧ u' = .returning ∧ w' = w := by
  refine callsD_of_wpS Tryd.func41 rfl fun c₀ cs hu => ?_
  apply wpS_seq
  apply wpS_region
  simp [wpOpsS, go_sem, recoverD, hu, Tryd.ntmps41, Exit.thenS]
  refine wpS_cond (t := false) (by simp [Act.eval, Array.replicate]) ?_
  simp only [Bool.false_eq_true, if_false]
  refine wpS_of_wp (wp_skip ?_)
  cases c₀
  simp_all [bodyPostS, results, Tryd.results41]

set_option maxHeartbeats 2000000 in
set_option maxRecDepth 100000 in
theorem ask_any (g : Nat) (A : DA) (ks : Ks) (Ai : Option Addr) (ci : Nat) (inputs : List ByteArray) (w : World) (ht : Trie g A ks w) (hid : ∀ x ∈ ks, 0 ≤ x.2) (hC : Kd.string.C w Ai inputs.length inputs)
    (hcl : ∀ s ∈ inputs, (∀ a ∈ bl s, 1 ≤ a) ∧ s.size ≤ 2147483647) (hl : inputs.length ≤ 2147483647) :
    Calls Tryd.prog 29 #[.slice (some ⟨g, 0, none⟩) A.n A.n, .slice Ai inputs.length ci] w fun e w' => ∃ v, e = .returned (.tuple #[v, .int .i64 0]) ∧ kAns.R tAns w' w.heap.size (fun _ => True) v (inputs.map (ansF ks)) ∧ Below w.heap.size w w' := by
  have hmf : ∀ (fn : Fn) (first cap : Array Value) (w : World), (Instr.makeFunc fn first cap).run Tryd.prog w = .ok (.func fn first cap) w := fun _ _ _ _ => rfl
  have HT := Lib.hid ht
  have HID := Lib.hid hid
  have HC := Lib.hid hC
  have HCL := Lib.hid hcl
  clear ht hid hC hcl
  go_enter_defers Tryd.func29, Tryd.ntmps29
  go_wp2_with fail
  obtain ⟨bo, hbo⟩ : ∃ bo, bo = w.heap.size := ⟨_, rfl⟩
  obtain ⟨w1, hw1⟩ : ∃ w1, w1 = (w.alloc (.cells #[.slice none 0 0] 37)).alloc (.cells #[.int .i64 0] tInt) := ⟨_, rfl⟩
  have ho1 : w1.heap[bo]? = some (.cells #[.slice none 0 0] 37 (0, 0)) := by rw [hw1, hbo]; exact heap_old (heap_new _ _) _
  have he1 : w1.heap[bo + 1]? = some (.cells #[.int .i64 0] tInt (0, 0)) := by
    have := heap_new (w.alloc (.cells #[.slice none 0 0] 37)) (.cells #[.int .i64 0] tInt)
    rw [size_alloc, ← hw1, ← hbo] at this
    exact this
  have hb1 : Below w.heap.size w w1 := by rw [hw1]; exact ((Below.refl _ _).alloc (Nat.le_refl _) _).alloc (by simp) _
  have hs1 : w1.heap.size = bo + 2 := by rw [hw1, hbo]; simp
  have HO1 := Lib.hid ho1
  have HE1 := Lib.hid he1
  have HB1 := Lib.hid hb1
  have HS1 := Lib.hid hs1
  have HBO := Lib.hid hbo
  rw [← hbo, ← hw1]
  clear hw1 ho1 he1 hb1 hs1 hbo
  go_loopw [7, 8, 12] (fun _ _ iv wr => ∃ (k : Nat) (v : Value), k ≤ inputs.length ∧ iv = .int .i64 k ∧ Hid (wr.heap[bo]? = some (.cells #[v] 37 (0, 0))) ∧ Hid (wr.heap[bo + 1]? = some (.cells #[.int .i64 0] tInt (0, 0))) ∧ Hid (kAns.R tAns wr (bo + 2) (fun _ => True) v ((inputs.take k).map (ansF ks))) ∧ Hid (bo + 2 ≤ wr.heap.size) ∧ Hid (Below w.heap.size w wr)) (fun _ _ iv _ => inputs.length - (intOf iv).toNat)
  case atStart => exact ⟨0, _, Nat.zero_le _, rfl, HO1, HE1, Lib.hid (Kd.R_nil _ _ _ _ _), Lib.hid (by rw [HS1.out]; exact Nat.le_refl _), HB1⟩
  case round =>
    obtain ⟨k, v, hk, rfl, HO, HE, HR, HS, HB⟩ := hrel
    by_cases hlt : k < inputs.length
    · obtain ⟨ad, rfl, hx⟩ := strs_at HC.out k hlt
      have hs1 := (HB.out.cell (World.block_lt_of_cell? w _ hx)).trans hx
      obtain ⟨hcl, hsz⟩ := HCL.out _ (List.getElem_mem hlt)
      have htk : (inputs.take (k + 1)).map (ansF ks) = (inputs.take k).map (ansF ks) ++ [ansF ks inputs[k]] := by
        rw [List.take_succ_eq_append_getElem hlt, List.map_append]; rfl
      have HTK := Lib.hid htk
      have HCL1 := Lib.hid hcl
      obtain ⟨s, hs⟩ : ∃ s, s = inputs[k] := ⟨_, rfl⟩
      rw [← hs] at hs1 hsz HCL1 HTK
      clear hx htk hcl hs
      have hLl : ((inputs.take k).map (ansF ks)).length = k := by rw [List.length_map, List.length_take]; omega
      generalize (inputs.take k).map (ansF ks) = L at HR HTK hLl
      obtain ⟨ab, hab⟩ : ∃ ab, ab = wr.heap.size := ⟨_, rfl⟩
      obtain ⟨w2, hw2⟩ : ∃ w2, w2 = wr.alloc (.cells #[.int .i64 0, .bool false, .int .i64 0, .bool false, .slice none 0 0, .slice none 0 0] tAns) := ⟨_, rfl⟩
      have hA2 : AnsAt ab (.int .i64 0) (.bool false) (.int .i64 0) (.bool false) (.slice none 0 0) (.slice none 0 0) w2 := by rw [hw2, hab]; exact heap_new _ _
      have hb2 : Below wr.heap.size wr w2 := by rw [hw2]; exact (Below.refl _ _).alloc (Nat.le_refl _) _
      have HA2 := Lib.hid hA2
      have HB2 := Lib.hid hb2
      have HF := Lib.hid (find_any g A ks s w2 ((HT.out.below HB.out).below hb2) HID.out HCL1.out hsz)
      have HAB := Lib.hid hab
      go_wp2_with fail
      rw [← hw2, ← hab]
      clear hw2 hab hA2 hb2
      refine HF.out.mono ?_
      rintro e w3 ⟨rfl, hb3⟩
      have hA3 := HA2.out.below hb3
      have HB3 := Lib.hid (HB2.out.trans (hb3.mono HB2.out.size))
      obtain ⟨hc0, hc1, hc2, hc3, hc4, hc5⟩ := hA3.c
      have hf0 := hA3.f 0
      have hf1 := hA3.f 1
      have HA3 := Lib.hid hA3
      clear hc2 hc3 hc4 hc5 hA3 hb3 HF
      go_upto_region 7 with fail
      generalize hw4 : World.setCell (World.setCell _ _ _) _ _ = w4
      have hA4 := HA3.out.set0 (.int .i64 (findF ks (bl s)).1) (.bool (findF ks (bl s)).2)
      rw [hw4] at hA4
      have hwr : wr.heap.size ≤ ab := by rw [HAB.out]; exact Nat.le_refl _
      have HB4 : Hid (Below wr.heap.size wr w4) := Lib.hid (by subst hw4; exact (HB3.out.setCell (p := ⟨ab, 0, none⟩) hwr _).setCell (p := ⟨ab, 1, none⟩) hwr _)
      have HA4 := Lib.hid hA4
      have HPX := Lib.hid (prefix_any g A ks s w4 ((HT.out.below HB.out).below HB4.out) HID.out HCL1.out hsz)
      clear hw4 hA4 hc0 hc1 hf0 hf1 HB3
      go_wp2_with fail
      refine HPX.out.mono ?_
      rintro e w5 ⟨rfl, hb5⟩
      have hA5 := HA4.out.below hb5
      have HB5 := Lib.hid (HB4.out.trans (hb5.mono HB4.out.size))
      obtain ⟨hc0, hc1, hc2, hc3, hc4, hc5⟩ := hA5.c
      have hf2 := hA5.f 2
      have hf3 := hA5.f 3
      have HA5 := Lib.hid hA5
      clear hc0 hc1 hc4 hc5 hA5 hb5 HPX
      go_upto_region 8 with fail
      generalize hw6 : World.setCell (World.setCell _ _ _) _ _ = w6
      have hA6 := HA5.out.set2 (.int .i64 (lastF (hitsF ks (bl s) 0)).1) (.bool (lastF (hitsF ks (bl s) 0)).2)
      rw [hw6] at hA6
      have HB6 : Hid (Below wr.heap.size wr w6) := Lib.hid (by subst hw6; exact (HB5.out.setCell (p := ⟨ab, 2, none⟩) hwr _).setCell (p := ⟨ab, 3, none⟩) hwr _)
      have HA6 := Lib.hid hA6
      have HCM := Lib.hid (common_any g A ks s w6 ((HT.out.below HB.out).below HB6.out) HID.out HCL1.out hsz)
      clear hw6 hA6 hc2 hc3 hf2 hf3 HB5
      go_wp2_with fail
      refine HCM.out.mono ?_
      rintro e w7 ⟨v1, v2, rfl, hr1, hr2, hb7⟩
      have hHl := hitsF_length ks (bl s) 0
      rw [bl_length] at hHl
      obtain ⟨A1, c1, rfl, hC1⟩ := hr1.reads (n := (hitsF ks (bl s) 0).length) (by rw [List.length_map])
      obtain ⟨A2, c2, rfl, hC2⟩ := hr2.reads (n := (hitsF ks (bl s) 0).length) (by rw [List.length_map])
      have HHT := Lib.hid (hits_any A1 A2 c1 c2 (hitsF ks (bl s) 0) w7 hC1 hC2 (by omega))
      have HA7 := Lib.hid (HA6.out.below hb7)
      have HB7 := Lib.hid (HB6.out.trans (hb7.mono HB6.out.size))
      clear hr1 hr2 hb7 hC1 hC2 HCM
      go_wp2_with fail
      refine HHT.out.mono ?_
      rintro e w8 ⟨v8, rfl, hr8, hb8⟩
      obtain ⟨A8, c8, rfl⟩ := Kd.R_slice hr8
      have hA8 := HA7.out.below hb8
      have HR8 := Lib.hid hr8
      have HB8 := Lib.hid (HB7.out.trans (hb8.mono HB7.out.size))
      obtain ⟨hc0, hc1, hc2, hc3, hc4, hc5⟩ := hA8.c
      have hf4 := hA8.f 4
      have HA8 := Lib.hid hA8
      clear hc0 hc1 hc2 hc3 hc5 hA8 hb8 hr8 HHT
      go_upto_region 9 with fail
      generalize hw9 : World.setCell _ _ _ = w9
      have hA9 := HA8.out.set4 (.slice A8 (hitsF ks (bl s) 0).length c8)
      rw [hw9] at hA9
      have HB9 : Hid (Below wr.heap.size wr w9) := Lib.hid (by subst hw9; exact HB8.out.setCell (p := ⟨ab, 4, none⟩) hwr _)
      have HR9 : Hid (kHit.R tHit w9 w7.heap.size (fun _ => True) (.slice A8 (hitsF ks (bl s) 0).length c8) (hitsF ks (bl s) 0)) := Lib.hid (by subst hw9; exact Kd.R_set HR8.out HA8.out (by decide) 4 _)
      have HA9 := Lib.hid hA9
      have HCB := Lib.hid (callback_any ab _ _ _ _ _ g A ks s w9 ((HT.out.below HB.out).below HB9.out) HID.out HCL1.out hsz hA9)
      clear hw9 hA9 hc4 hf4 HB8
      go_wp2_with fail
      refine HCB.out.mono ?_
      rintro e w10 ⟨rfl, v10, hA10, hr10, hk10⟩
      obtain ⟨A10, c10, rfl⟩ := Kd.R_slice hr10
      obtain ⟨Av, cv, rfl⟩ := Kd.R_slice HR.out
      rw [hLl] at HR HO
      have hab7 : ab < w7.heap.size := lt_of_heap HA7.out
      have hR9' : kHit.R tHit w10 w7.heap.size (fun k => wr.heap.size ≤ k) (.slice A8 (hitsF ks (bl s) 0).length c8) (hitsF ks (bl s) 0) :=
        Kd.R_mono (Kd.R_bound (Kd.R_step (Kd.R_bound HR9.out) (fun k hk hlt => hk10.block k hlt (by have := hk.2.1; omega) (by have := hk.2.1; omega)))) (fun k hk => by have := hk.2.1; have := HB7.out.size; omega)
      have hR10' : kHit.R tHit w10 w9.heap.size (fun k => wr.heap.size ≤ k) (.slice A10 (hitsF ks (bl s) 0).length c10) (hitsF ks (bl s) 0) :=
        Kd.R_mono (Kd.R_bound hr10) (fun k hk => by have := hk.2.1; have := HB9.out.size; omega)
      have hB10 : Below wr.heap.size wr w10 := HB9.out.trans (hk10.below hwr hwr HB9.out.size)
      have hs7 : bo + 2 ≤ w7.heap.size := Nat.le_trans HS.out HB7.out.size
      have hs9 : bo + 2 ≤ w9.heap.size := Nat.le_trans HS.out HB9.out.size
      have hbol : bo < wr.heap.size := lt_of_heap HO.out
      have ho10 : w10.heap[bo]? = some (.cells #[.slice Av k cv] 37 (0, 0)) := (hB10.block bo hbol).trans HO.out
      have hco : w10.cell? ⟨bo, 0, none⟩ = some (.slice Av k cv) := by rw [cell_of_heap ho10]; rfl
      obtain ⟨hc0, hc1, hc2, hc3, hc4, hc5⟩ := hA10.c
      have HO10 := Lib.hid ho10
      have HB10 := Lib.hid hB10
      have HR10 := Lib.hid (Kd.R_below HR.out hB10)
      have HM10 : Hid (∀ o : Obj, kAns.M (w10.alloc o) (bo + 2) (fun k => wr.heap.size ≤ k) (ansF ks s) [.int .i64 (findF ks (bl s)).1, .bool (findF ks (bl s)).2, .int .i64 (lastF (hitsF ks (bl s) 0)).1, .bool (lastF (hitsF ks (bl s) 0)).2, .slice A8 (hitsF ks (bl s) 0).length c8, .slice A10 (hitsF ks (bl s) 0).length c10]) :=
        Lib.hid (fun o => ans_M (Kd.R_alloc (Kd.R_lower hR9' hs7) o) (Kd.R_alloc (Kd.R_lower hR10' hs9) o))
      have HV : Hid (∀ j, wr.heap.size ≤ j → some j ≠ (Value.slice Av k cv).ownBlock) := Lib.hid (fun j hj e => by have := Kd.R_lt HR.out j e.symm; omega)
      have HL10 : Hid (bo + 2 ≤ w10.heap.size) := Lib.hid (Nat.le_trans HS.out HB10.out.size)
      clear hr10 hk10 hA10 hR9' hR10' hB10 hs7 hs9 ho10 hab7 HCB
      go_wp2_with (at_builtin; refine kapp (w0 := w10) kAns (bo + 2) rfl _ _ 37 tAns (.agg #[.int .i64 0, .bool false, .int .i64 0, .bool false, .slice none 0 0, .slice none 0 0]) 80 rfl Tryd.underlying37 infoAns rfl (by decide) (by decide) _ L (ansF ks s) [.int .i64 (findF ks (bl s)).1, .bool (findF ks (bl s)).2, .int .i64 (lastF (hitsF ks (bl s) 0)).1, .bool (lastF (hitsF ks (bl s) 0)).2, .slice A8 (hitsF ks (bl s) 0).length c8, .slice A10 (hitsF ks (bl s) 0).length c10] (fun _ => True) (fun k => wr.heap.size ≤ k) w10.heap.size rfl rfl ?hg (HM10.out _) (fun j hj => ⟨trivial, HV.out j hj⟩) (fun _ _ => trivial) (Kd.R_alloc HR10.out _) ((Below.refl _ _).alloc HL10.out _) (by have := HL10.out; simp; omega) ?hl ?_)
      case hg =>
        intro j u hj
        rw [cell_of_heap (heap_new w10 _)]
        simpa using hj
      case hl => omega
      intro v11 w11 hown hb11 hgr hat
      obtain ⟨A11, c11, rfl⟩ := Kd.R_slice hown
      have hlenk : (L ++ [ansF ks s]).length = k + 1 := by rw [List.length_append, hLl]; rfl
      rw [hlenk] at hown ⊢
      have ho11 : w11.heap[bo]? = some (.cells #[.slice Av k cv] 37 (0, 0)) := (hb11.block bo (by omega)).trans HO10.out
      have he11 : w11.heap[bo + 1]? = some (.cells #[.int .i64 0] tInt (0, 0)) := (hb11.block (bo + 1) (by omega)).trans ((HB10.out.block (bo + 1) (lt_of_heap HE.out)).trans HE.out)
      have hc11 : w11.cell? ⟨bo, 0, none⟩ = some (.slice Av k cv) := by rw [cell_of_heap ho11]; rfl
      have hf11 : w11.frozen? ⟨bo, 0, none⟩ = false := frozen_of_heap ho11 0
      have HO11 := Lib.hid ho11
      have HE11 := Lib.hid he11
      have HR11 := Lib.hid hown
      have HL11 : Hid (bo + 2 ≤ w11.heap.size) := Lib.hid (Nat.le_trans HL10.out hb11.size)
      have HB11 : Hid (Below w.heap.size w w11) := Lib.hid ((HB.out.trans (HB10.out.mono HB.out.size)).trans (hb11.mono (by have := HBO.out; omega)))
      clear hown hb11 hgr hat ho11 he11 hc0 hc1 hc2 hc3 hc4 hc5 hco
      go_wp2_with fail
      refine ⟨⟨k + 1, .slice A11 (k + 1) c11, by omega, by go_num, Lib.hid ?_, Lib.hid ?_, Lib.hid ?_, Lib.hid ?_, Lib.hid ?_⟩, by simp [intOf]; omega⟩
      · rw [heap_set HO11.out]; rfl
      · rw [heap_set_ne (by omega)]; exact HE11.out
      · rw [HTK.out]; exact Kd.R_set HR11.out HO11.out (by decide) 0 _
      · rw [size_set]; exact HL11.out
      · exact HB11.out.setCell (p := ⟨bo, 0, none⟩) (by have := HBO.out; show w.heap.size ≤ bo; omega) _
    · obtain rfl : k = inputs.length := by omega
      have hr := HR.out
      rw [List.take_length] at hr
      obtain ⟨Av, cv, rfl⟩ := Kd.R_slice hr
      rw [List.length_map] at hr HO
      have hco : wr.cell? ⟨bo, 0, none⟩ = some (.slice Av inputs.length cv) := by rw [cell_of_heap HO.out]; rfl
      have hce : wr.cell? ⟨bo + 1, 0, none⟩ = some (.int .i64 0) := by rw [cell_of_heap HE.out]; rfl
      have hfo : wr.frozen? ⟨bo, 0, none⟩ = false := frozen_of_heap HO.out 0
      have hfe : wr.frozen? ⟨bo + 1, 0, none⟩ = false := frozen_of_heap HE.out 0
      have HR1 := Lib.hid hr
      clear hr
      go_wp2_with fail
      have hR2 : kAns.R tAns ((wr.setCell ⟨bo, 0, none⟩ (.slice Av inputs.length cv)).setCell ⟨bo + 1, 0, none⟩ (.int .i64 0)) w.heap.size (fun _ => True) (.slice Av inputs.length cv) (inputs.map (ansF ks)) := by
        have hne : (wr.setCell ⟨bo, 0, none⟩ (.slice Av inputs.length cv)).heap[bo + 1]? = some (.cells #[.int .i64 0] tInt (0, 0)) := by rw [heap_set_ne (by omega)]; exact HE.out
        have h1 := Kd.R_set HR1.out HO.out (by decide) 0 (.slice Av inputs.length cv)
        exact Kd.R_lower (Kd.R_set h1 hne (by decide) 0 _) (by have := HBO.out; omega)
      have hB2 : Below w.heap.size w ((wr.setCell ⟨bo, 0, none⟩ (.slice Av inputs.length cv)).setCell ⟨bo + 1, 0, none⟩ (.int .i64 0)) :=
        (HB.out.setCell (p := ⟨bo, 0, none⟩) (by have := HBO.out; show w.heap.size ≤ bo; omega) _).setCell (p := ⟨bo + 1, 0, none⟩) (by have := HBO.out; show w.heap.size ≤ bo + 1; omega) _
      have hw1 : ((wr.setCell ⟨bo, 0, none⟩ (.slice Av inputs.length cv)).setCell ⟨bo + 1, 0, none⟩ (.int .i64 0)).cell? ⟨bo, 0, none⟩ = some (.slice Av inputs.length cv) := by
        rw [cell_of_heap (c := #[.slice Av inputs.length cv]) (t := 37) (f := (0, 0)) (by rw [heap_set_ne (by omega), heap_set HO.out]; rfl)]; rfl
      have hw2 : ((wr.setCell ⟨bo, 0, none⟩ (.slice Av inputs.length cv)).setCell ⟨bo + 1, 0, none⟩ (.int .i64 0)).cell? ⟨bo + 1, 0, none⟩ = some (.int .i64 0) := by
        rw [cell_of_heap (c := #[.int .i64 0]) (t := tInt) (f := (0, 0)) (by rw [heap_set (c := #[.int .i64 0]) (t := tInt) (f := (0, 0)) (by rw [heap_set_ne (by omega)]; exact HE.out)]; rfl)]; rfl
      refine leaves_cons (f := 41) (args := #[.pointer (some ⟨bo, 0, none⟩), .pointer (some ⟨bo + 1, 0, none⟩)]) (by simp) (by simp [go_sem]) ?_
      refine (ask_idle ⟨bo, 0, none⟩ ⟨bo + 1, 0, none⟩ _).mono ?_
      rintro e u' w'' ⟨rfl, rfl, rfl⟩
      have HR2 := Lib.hid hR2
      have HB2 := Lib.hid hB2
      generalize (wr.setCell ⟨bo, 0, none⟩ (.slice Av inputs.length cv)).setCell ⟨bo + 1, 0, none⟩ (.int .i64 0) = w9 at hw1 hw2 HR2 HB2 ⊢
      simp [Leaves, settle, results, Tryd.results29, go_sem, hw1, hw2]
      exact ⟨HR2.out, HB2.out⟩
end Go.Proofs.YtjifoimkjgepcaaDoor.Da
