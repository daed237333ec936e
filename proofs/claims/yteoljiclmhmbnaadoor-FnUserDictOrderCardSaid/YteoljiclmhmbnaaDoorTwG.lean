/-
  The walks of laws.plainWord (letters alone) and laws.rightRecords.
-/
import Derived.Test.YteoljiclmhmbnaaDoorTwF
import Derived.Test.YteoljiclmhmbnaaDoorTwE
import Derived.Test.YteoljiclmhmbnaaDoorTwA
import Derived.Test.YteoljiclmhmbnaaDoorRows
import Derived.Outline
import Derived.Deep.QuietTactic
import Derived.BigQuiet
import Derived.Test.YteoljiclmhmbnaaDoorTwB
import Derived.RegionTactic
import Derived.BigRegion
import Derived.Deep.RegionLaw
import Derived.Deep.LoopGhost
import Derived.LaidMore
import Derived.MakeChecks
import Derived.Lib.LaidTab
import Derived.Deep.Slices
import Derived.ChangeArms
set_option linter.unusedVariables false
set_option linter.unusedSimpArgs false
namespace Go.Proofs.YteoljiclmhmbnaaDoor.Tx
open Go.RowKit Go.Proofs.YteoljiclmhmbnaaDoor.K Go.Proofs.YteoljiclmhmbnaaDoorW.PrintWords

set_option maxHeartbeats 1000000 in
set_option maxRecDepth 5000 in
theorem plainA_any (s : ByteArray) (w : World) (hs : s.size ≤ 4611686018427387904) :
    Calls Tryd.prog 37 #[.string s] w (BoolP (plainA s) w) := by
  go_enter Tryd.func37, Tryd.ntmps37
  go_wp2
  go_loopw [6] (fun i wr => ∃ k : Nat, k ≤ s.size ∧ i = .int .i64 k ∧ Hid (∀ c ∈ (toL s).take k, 32 < c.toNat ∧ c.toNat < 127) ∧ wr = w) (fun i _ => s.size - (intOf i).toNat)
  case atStart => exact ⟨0, Nat.zero_le _, rfl, Lib.hid (by simp), rfl⟩
  case round =>
    obtain ⟨k, hk, rfl, hall, rfl⟩ := hrel
    by_cases hlt : k < s.size
    · have HX := Lib.hid (fun h => all_take (p := fun c : UInt8 => 32 < c.toNat ∧ c.toNat < 127) (k := k) (xs := toL s) (by rw [toL_size]; exact hlt) hall.out h)
      rw [toL_get s k hlt] at HX
      by_cases h1 : ((s[k].toNat : Int)) ≤ 32
      · go_wp2
        go_ret
        exact ⟨false, rfl, by simp, rfl⟩
      by_cases h2 : ((s[k].toNat : Int)) = 44
      · have ht : (((s[k].toNat : Int)) == 44) = true := by simpa using h2
        clear h2
        go_wp2
        go_ret
        exact ⟨false, by simp, by simp, rfl⟩
      have ht2 : (((s[k].toNat : Int)) == 44) = false := by simpa using h2
      by_cases h3 : ((s[k].toNat : Int)) = 35
      · have ht : (((s[k].toNat : Int)) == 35) = true := by simpa using h3
        clear h2 h3
        go_wp2
        go_ret
        exact ⟨false, by simp, by simp, rfl⟩
      have ht3 : (((s[k].toNat : Int)) == 35) = false := by simpa using h3
      by_cases h4 : ((s[k].toNat : Int)) = 34
      · have ht : (((s[k].toNat : Int)) == 34) = true := by simpa using h4
        clear h2 h3 h4
        go_wp2
        go_ret
        exact ⟨false, by simp, by simp, rfl⟩
      have ht4 : (((s[k].toNat : Int)) == 34) = false := by simpa using h4
      clear h2 h3 h4
      by_cases h5 : (127 : Int) ≤ ((s[k].toNat : Int))
      · go_wp2
        go_ret
        exact ⟨false, by simp, by simp, rfl⟩
      have HY := Lib.hid (HX.out ⟨by omega, by omega⟩)
      clear HX
      go_wp2
      exact ⟨⟨k + 1, by omega, by go_num, HY, trivial⟩, by simp [intOf]; omega⟩
    · obtain rfl : k = s.size := by omega
      have h := hall.out
      rw [← toL_size, List.take_length] at h
      have HA := Lib.hid h
      clear h hall
      go_wp2
      go_ret
      refine ⟨_, rfl, fun hb => ⟨fun e0 => ?_, HA.out⟩, rfl⟩
      have h0 : s.toList = [] := by
        rw [ByteArray.toList_eq]
        exact List.eq_nil_of_length_eq_zero (by rw [Array.length_toList]; exact e0)
      simp [h0] at hb

/-- Records with different words of letters, as many readings as tokens. -/
def okR (u : Rec) : Prop := plainA u.1 ∧ 1 ≤ u.2.1.length ∧ u.2.1.length = u.2.2.1.length ∧ u.2.1.length ≤ 20
structure RightR (xs : List Rec) : Prop where
  pos : 0 < xs.length
  ok : ∀ u ∈ xs, okR u
  nd : (xs.map (·.1)).Nodup
  sum : Da.sumL (xs.map (·.1)) ≤ 4000

set_option maxHeartbeats 2000000 in
set_option maxRecDepth 5000 in
theorem right_any (A : Option Addr) (c : Nat) (xs : List Rec) (w : World) (hC : kRec.C w A xs.length xs) (hf : xs.length ≤ 2147483647 ∧ ∀ u ∈ xs, fitR u) :
    Calls Tryd.prog 10 #[.slice A xs.length c] w (BoolIf (RightR xs) w) := by
  have hm := hC.2.1
  have hl := hf.1
  have HC := Lib.hid hC
  have HF := Lib.hid hf.2
  clear hC hf
  go_enter Tryd.func10, Tryd.ntmps10
  go_wp2
  go_loopw [3, 8] (fun kv i wr => ∃ k : Nat, k ≤ xs.length ∧ i = .int .i64 k ∧ Hid (Kd.string.R 9 wr w.heap.size (fun _ => True) kv ((xs.take k).map (·.1))) ∧ Hid (Below w.heap.size w wr) ∧ Hid (∀ u ∈ xs.take k, okR u) ∧ Hid (((xs.take k).map (·.1)).Nodup)) (fun _ i _ => xs.length - (intOf i).toNat)
  case atStart => exact ⟨0, Nat.zero_le _, rfl, Lib.hid (Kd.R_nil _ _ _ _ _), Lib.hid (Below.refl _ _), Lib.hid (by simp), Lib.hid (by simp)⟩
  case round =>
    obtain ⟨k, hk, rfl, hR, hbel, hOK, hND⟩ := hrel
    have hszr := hbel.out.size
    by_cases hlt : k < xs.length
    · obtain ⟨ad, A1, c1, A2, c2, rfl, s0, s1, s2, s3, g1, _, g2, _⟩ := recs_at (Kd.C_below HC.out hbel.out) k hlt
      have hfu := HF.out _ (List.getElem_mem hlt)
      have HOKS := Lib.hid (fun h => all_take (p := okR) hlt hOK.out h)
      have HT := Lib.hid (List.take_succ_eq_append_getElem hlt)
      have htl : ((xs.take k).map (fun u : Rec => u.1)).length = k := by rw [List.length_map, List.length_take]; omega
      generalize xs[k] = u at *
      obtain ⟨a, ys, zs, d⟩ := u
      have hasz : a.size ≤ 2147483647 := hfu.1
      have hy0 := g1.2.1
      have hz0 := g2.2.1
      replace hy0 : ys.length ≤ 9223372036854775807 := hy0
      replace hz0 : zs.length ≤ 9223372036854775807 := hz0
      obtain ⟨A3, c3, hv3, hl3, hC3⟩ := Kd.R_reads hR.out
      rw [htl] at hv3
      subst hv3
      have HTL := Lib.hid htl
      have HHAS := Lib.hid (fun W (h : Below wr.heap.size wr W) => hasStr_any A3 c3 ((xs.take k).map (·.1)) a W (Kd.C_below hC3 h))
      rw [htl] at HHAS
      have HOB := Lib.hid (HOKS.out)
      clear g1 g2 hfu htl hC3 hl3
      have HPA := Lib.hid (fun W => plainA_any a W (by omega))
      go_wp2_with fail
      refine (HPA.out _).mono ?_
      rintro e w4 ⟨b4, rfl, hb4, rfl⟩
      have HB4 := Lib.hid hb4
      clear hb4 s0 s1 s2 s3 HPA
      obtain ⟨o, ho⟩ : ∃ o, o = Obj.cells #[.string a, .slice A1 ys.length c1, .slice A2 zs.length c2, .string d] 31 := ⟨_, rfl⟩
      have hbo : Below wr.heap.size wr (wr.alloc o) := (Below.refl _ wr).alloc (Nat.le_refl _) _
      have HBO := Lib.hid (hbel.out.trans (hbo.mono hszr))
      have hqq : ∀ j, (wr.alloc o).cell? ⟨wr.heap.size, j, none⟩ = (#[.string a, .slice A1 ys.length c1, .slice A2 zs.length c2, .string d] : Array Value)[j]? := fun j => by rw [ho]; exact cell_of_heap (heap_new wr _) j
      have q0 : (wr.alloc o).cell? ⟨wr.heap.size, 0, none⟩ = some (.string a) := hqq 0
      have q1 : (wr.alloc o).cell? ⟨wr.heap.size, 1, none⟩ = some (.slice A1 ys.length c1) := hqq 1
      have q2 : (wr.alloc o).cell? ⟨wr.heap.size, 2, none⟩ = some (.slice A2 zs.length c2) := hqq 2
      have HR4 := Lib.hid (Kd.R_alloc hR.out o)
      have HHA := Lib.hid (HHAS.out _ hbo)
      rw [← ho]
      clear hqq ho hbo HHAS hR hbel
      generalize wr.alloc o = w4 at q0 q1 q2 HBO HR4 HHA ⊢
      generalize wr.heap.size = bx at q0 q1 q2 hszr ⊢
      have hsz4 := HBO.out.size
      cases b4 with
      | false =>
        go_wp2
        go_ret
        exact ⟨false, by simp, by simp, HBO.out⟩
      | true =>
        by_cases h1 : ys.length = zs.length
        case neg =>
          have hq : ((ys.length : Int) != (zs.length : Int)) = true := by rw [bne_iff_ne]; omega
          clear h1
          go_wp2
          go_ret
          exact ⟨false, by simp, by simp, HBO.out⟩
        have hq : ((ys.length : Int) != (zs.length : Int)) = false := by rw [bne_eq_false_iff_eq, h1]
        have H1 := Lib.hid h1
        clear h1
        by_cases h2 : ys.length < 1
        · have hq2 : (ys.length : Int) < 1 := by omega
          clear h2
          go_wp2
          go_ret
          exact ⟨false, by simp, by simp, HBO.out⟩
        have hq2 : ¬ (ys.length : Int) < 1 := by omega
        have H2 := Lib.hid h2
        clear h2
        by_cases h3 : 20 < ys.length
        · have hq3 : (20 : Int) < (ys.length : Int) := by omega
          clear h3
          go_wp2
          go_ret
          exact ⟨false, by simp, by simp, HBO.out⟩
        have hq3 : ¬ (20 : Int) < (ys.length : Int) := by omega
        have H3 := Lib.hid h3
        clear h3
        go_wp2_with fail
        refine HHA.out.mono ?_
        rintro e w5 ⟨rfl, hb5⟩
        have HB5 := Lib.hid (HBO.out.trans (hb5.mono hsz4))
        have HR5 := Lib.hid (Kd.R_below HR4.out hb5)
        have q5 := (hb5.cell (World.block_lt_of_cell? _ _ q0)).trans q0
        have hsz5 := HB5.out.size
        clear hb5 HHA HR4 HBO q0 q1 q2 hsz4
        obtain ⟨mb, hmb⟩ : ∃ mb, memB a ((xs.take k).map (fun u : Rec => u.1)) = mb := ⟨_, rfl⟩
        rw [hmb]
        have HMB := Lib.hid hmb
        clear hmb
        cases mb with
        | true =>
          go_wp2
          go_ret
          exact ⟨false, by simp, by simp, HB5.out⟩
        | false =>
          go_wp2_with (at_builtin; refine kapp (w0 := w) Kd.string w.heap.size rfl _ _ 29 9 (.string ⟨#[]⟩) 16 rfl Tryd.underlying29 (by kernel_rfl) rfl (by decide) (by decide) _ ((xs.take k).map (·.1)) a [.string a] (fun _ => True) (fun _ => False) w5.heap.size rfl rfl ?hg rfl (fun _ h => h.elim) (fun _ _ => trivial) (Kd.R_alloc HR5.out _) (HB5.out.alloc hsz5 _) (by simp; omega) ?hl ?_)
          case hg => intro j u hj; rw [cell_of_heap (heap_new _ _)]; simpa using hj
          case hl => rw [HTL.out]; omega
          intro v6 w6 hK6 hB6 hg6 hat6
          rw [← List.map_take] at hK6
          have HK6 := Lib.hid hK6
          have HB6 := Lib.hid hB6
          clear hK6 hB6 hg6 hat6
          go_wp2
          refine ⟨⟨k + 1, by omega, by go_num, Lib.hid (by rw [HT.out, List.map_append]; exact HK6.out), HB6, Lib.hid (HOB.out ⟨HB4.out trivial, by have := H2.out; show 1 ≤ ys.length; omega, H1.out, by have := H3.out; show ys.length ≤ 20; omega⟩), Lib.hid ?_⟩, by simp [intOf]; omega⟩
          rw [HT.out, List.map_append, List.nodup_append]
          refine ⟨hND.out, by simp, ?_⟩
          intro x hx y hy
          simp only [List.map_cons, List.map_nil, List.mem_singleton] at hy
          subst hy
          rintro rfl
          have := memB_true hx
          rw [HMB.out] at this
          cases this
    · obtain rfl : k = xs.length := by omega
      have hR' := hR.out
      have hOK' := hOK.out
      have hND' := hND.out
      rw [List.take_length] at hR' hOK' hND'
      obtain ⟨A3, c3, hv3, hl3, hC3⟩ := Kd.R_reads hR'
      subst hv3
      have hml : (xs.map fun u : Rec => u.1).length = xs.length := List.length_map _
      have HFEW := Lib.hid (Da.few_one A3 c3 (xs.map (·.1)) wr hC3 hl3 ⟨by rw [hml]; omega, fun x hx => by
        obtain ⟨u, hu, rfl⟩ := List.mem_map.1 hx
        exact (HF.out u hu).1⟩)
      rw [hml] at HFEW
      have HOK' := Lib.hid hOK'
      have HND' := Lib.hid hND'
      clear hR' hOK' hND' hC3 hl3 hR hOK hND
      rw [hml]
      clear hml
      go_wp2_with fail
      refine HFEW.out.mono ?_
      rintro e w4 ⟨b, rfl, hb, hw⟩
      have HFB := Lib.hid hb
      have HW := Lib.hid (hbel.out.trans (hw.mono hszr))
      clear hb hw HFEW
      cases b with
      | false =>
        go_wp2
        go_ret
        exact ⟨false, by simp, by simp, HW.out⟩
      | true =>
        by_cases h0 : 0 < xs.length
        · have hq : (0 : Int) < (xs.length : Int) := by omega
          go_wp2
          go_ret
          exact ⟨true, by simp [hq], fun _ => ⟨h0, HOK'.out, HND'.out, HFB.out trivial⟩, HW.out⟩
        · have hq : ¬ (0 : Int) < (xs.length : Int) := by omega
          go_wp2
          go_ret
          exact ⟨false, by simp [hq], by simp, HW.out⟩
end Go.Proofs.YteoljiclmhmbnaaDoor.Tx

/-
  The walk of laws.same[int].
-/
set_option linter.unusedVariables false
set_option linter.unusedSimpArgs false
namespace Go.Proofs.YteoljiclmhmbnaaDoor.K
open Go.RowKit Go.Proofs.YteoljiclmhmbnaaDoorW.PrintWords

theorem atSameInt {w : World} {A : Option Addr} {n : Nat} {xs : List Int} (h : ((Kd.int .i64)).C w A n xs) : ∀ j (hj : j < xs.length), ∃ ad, A = some ad ∧ w.cell? (ad.add j) = some (Value.int .i64 xs[j]) := by
  intro j hj
  obtain ⟨ad, hA, hc⟩ := h.2.2 (by have := h.1; omega)
  obtain ⟨c, hl, hk, hcell⟩ := hc j xs[j] (List.getElem?_eq_getElem hj)
  have hk' : c = [Value.int .i64 xs[j]] := hk
  subst hk'
  have := hcell 0 _ rfl
  have e : ((Kd.int .i64)).sz = 1 := rfl
  rw [e, Nat.mul_one, Nat.add_zero] at this
  exact ⟨ad, hA, this⟩

set_option maxHeartbeats 400000 in
theorem sameInt_any (A B : Option Addr) (c c' : Nat) (xs ys : List Int) (w : World) (hC : ((Kd.int .i64)).C w A xs.length xs) (hD : ((Kd.int .i64)).C w B ys.length ys) :
    Calls Tryd.prog 24 #[.slice A xs.length c, .slice B ys.length c'] w fun e w' => e = .returned (.bool (decide (xs = ys))) ∧ Below w.heap.size w w' := by
  have hm := hC.2.1
  have hm' := hD.2.1
  have HC := Lib.hid hC
  have HD := Lib.hid hD
  clear hC hD
  go_enter Tryd.func24, Tryd.ntmps24
  by_cases hl : xs.length = ys.length
  rotate_left
  · have ht : ((xs.length : Int) != (ys.length : Int)) = true := by simp; omega
    have HL := Lib.hid hl
    clear hl
    go_wp2
    go_ret
    exact ⟨by rw [decide_eq_false (fun e => HL.out (by rw [e]))]; rfl, Below.refl _ _⟩
  have ht : ((xs.length : Int) != (ys.length : Int)) = false := by simp; omega
  have HL := Lib.hid hl
  clear hl
  go_wp2
  go_loopw [13] (fun i wr => ∃ k : Nat, k ≤ xs.length ∧ i = .int .i64 k ∧ Hid (xs.take k = ys.take k) ∧ Below w.heap.size w wr) (fun i _ => xs.length - (intOf i).toNat)
  case atStart => exact ⟨0, Nat.zero_le _, rfl, Lib.hid (by simp), Below.refl _ _⟩
  case round =>
    obtain ⟨k, hk, rfl, hall, hbel⟩ := hrel
    by_cases hlt : k < xs.length
    · have hlt' : k < ys.length := by have := HL.out; omega
      obtain ⟨ad, rfl, hs⟩ := atSameInt HC.out k hlt
      obtain ⟨bd, rfl, hs2⟩ := atSameInt HD.out k hlt'
      have hs' := (hbel.cell (World.block_lt_of_cell? w _ hs)).trans hs
      have hs2' := (hbel.cell (World.block_lt_of_cell? w _ hs2)).trans hs2
      clear hs hs2
      have p0 : (0 : Int) ≤ k := by omega
      have p1 : (k : Int) < (xs.length : Int) := by omega
      have p2 : (k : Int) < (ys.length : Int) := by omega
      by_cases hx : xs[k] = ys[k]
      · have hq : (xs[k] == ys[k]) = true := by simpa using hx
        have hq2 : (xs[k] != ys[k]) = false := by rw [bne, hq]; rfl
        have HX := Lib.hid hx
        clear hx
        go_wp2
        go_quiet (fail)
        go_wp2
        refine ⟨⟨k + 1, by omega, by go_num, Lib.hid ?_, pw_below_drewN hbel _⟩, by simp [intOf]; omega⟩
        rw [List.take_succ_eq_append_getElem hlt, List.take_succ_eq_append_getElem hlt', hall.out, HX.out]
      · have hq : (xs[k] == ys[k]) = false := by simpa using hx
        have hq2 : (xs[k] != ys[k]) = true := by rw [bne, hq]; rfl
        have HX := Lib.hid hx
        clear hx
        go_wp2
        go_quiet (fail)
        go_wp2
        go_ret
        refine ⟨by rw [decide_eq_false (fun e => HX.out (by simp [e]))]; rfl, pw_below_drewN hbel _⟩
    · go_wp2
      go_ret
      obtain rfl : k = xs.length := by omega
      have h := hall.out
      rw [List.take_length, HL.out, List.take_length] at h
      exact ⟨by rw [decide_eq_true h]; rfl, hbel⟩
end Go.Proofs.YteoljiclmhmbnaaDoor.K

/-
  The walk of laws.owns.
-/
set_option linter.unusedVariables false
set_option linter.unusedSimpArgs false
namespace Go.Proofs.YteoljiclmhmbnaaDoor.Da
open Go.RowKit Go.ChangeShapes Go.Proofs.YteoljiclmhmbnaaDoor.K Go.Proofs.YteoljiclmhmbnaaDoorW.PrintWords Go.Maps

/-- The cells of an answer in a row of the call's own, and its lists. -/
theorem ianAt {w : World} {base : Nat} {v : Value} {xs : List IAns} (h : kIAns.R tIAns w base (fun _ => True) v xs) : ∃ A c, v = .slice A xs.length c ∧ ∀ j (hj : j < xs.length), ∃ ad, A = some ad ∧ ∃ A0 c0 A1 c1 A2 c2 A3 c3,
    w.cell? (ad.add (j * 4)) = some (.slice A0 xs[j].1.length c0) ∧ w.cell? ⟨(ad.add (j * 4)).block, (ad.add (j * 4)).off + 1, none⟩ = some (.slice A1 xs[j].2.1.length c1) ∧
    w.cell? ⟨(ad.add (j * 4)).block, (ad.add (j * 4)).off + 2, none⟩ = some (.slice A2 xs[j].2.2.1.length c2) ∧ w.cell? ⟨(ad.add (j * 4)).block, (ad.add (j * 4)).off + 3, none⟩ = some (.slice A3 xs[j].2.2.2.length c3) ∧
    (Kd.int .i64).R tInt w base (fun k => base ≤ k) (.slice A0 xs[j].1.length c0) xs[j].1 ∧ (Kd.int .i64).R tInt w base (fun k => base ≤ k) (.slice A1 xs[j].2.1.length c1) xs[j].2.1 ∧
    kRows.R tSl w base (fun k => base ≤ k) (.slice A2 xs[j].2.2.1.length c2) xs[j].2.2.1 ∧ kHit.R tHit w base (fun k => base ≤ k) (.slice A3 xs[j].2.2.2.length c3) xs[j].2.2.2 := by
  obtain ⟨A, c, he, hl, hr⟩ := OwnRow.reads (Kd.R_mono (Kd.R_bound h) (ok' := fun k => base ≤ k) (fun k hk => hk.2.1)).2
  refine ⟨A, c, he, fun j hj => ?_⟩
  obtain ⟨ad, hA, hc⟩ := hr.2.2 (by omega)
  obtain ⟨c, hl, hk, hcell⟩ := hc j xs[j] (List.getElem?_eq_getElem hj)
  generalize xs[j] = x at hk ⊢
  obtain ⟨p0, q0, rfl, ⟨v0, hp0, hR0⟩, p1, q1, rfl, ⟨v1, hp1, hR1⟩, p2, q2, rfl, ⟨v2, hp2, hR2⟩, ⟨v3, hp3, hR3⟩⟩ := hk
  obtain ⟨A0, c0, rfl⟩ := Kd.R_slice hR0
  obtain ⟨A1, c1, rfl⟩ := Kd.R_slice hR1
  obtain ⟨A2, c2, rfl⟩ := Kd.R_slice hR2
  obtain ⟨A3, c3, rfl⟩ := Kd.R_slice hR3
  subst hp0 hp1 hp2 hp3
  have e : kIAns.sz = 4 := rfl
  rw [e] at hcell
  have h0 := hcell 0 _ rfl
  have h1 := hcell 1 _ rfl
  have h2 := hcell 2 _ rfl
  have h3 := hcell 3 _ rfl
  rw [Nat.add_zero] at h0
  rw [add_field _ _ _ (by decide)] at h1 h2 h3
  exact ⟨ad, hA, A0, c0, A1, c1, A2, c2, A3, c3, h0, h1, h2, h3, Kd.R_mono hR0 (fun k hk => hk.1), Kd.R_mono hR1 (fun k hk => hk.1), Kd.R_mono hR2 (fun k hk => hk.1), Kd.R_mono hR3 (fun k hk => hk.1)⟩
theorem ints_new (w : World) (xs : List Int) (hl : xs.length ≤ 9223372036854775807) : (Kd.int .i64).C (w.alloc (.cells (xs.map (Value.int .i64)).toArray tInt)) (some ⟨w.heap.size, 0, none⟩) xs.length xs := C_of_block (heap_new w _) (reps_ints _ _ xs) hl
end Go.Proofs.YteoljiclmhmbnaaDoor.Da
namespace Go.Proofs.YteoljiclmhmbnaaDoor.Tx
open Go.RowKit Go.Proofs.YteoljiclmhmbnaaDoor.K Go.Proofs.YteoljiclmhmbnaaDoorW.PrintWords

abbrev oRec : Rec := (⟨#[97]⟩, [⟨#[97]⟩], [⟨#[98]⟩], ⟨#[110]⟩)
abbrev oIn : List ByteArray := [⟨#[97, 98]⟩]
theorem oPl : plainA ⟨#[97]⟩ := ⟨by decide, by decide⟩
theorem oOk : OkUD [oRec] where
  pos := by decide
  len := by decide
  pl u hu := by
    rw [List.mem_singleton.1 hu]
    exact ⟨oPl, by decide, by decide, rfl⟩
  sm u hu := by
    rw [List.mem_singleton.1 hu]
    decide
  sum := fun _ => by decide
theorem oSort : sortR [oRec] = [oRec] := List.perm_singleton.1 (sortR_perm [oRec])
theorem oAns : (oIn.map (Da.ansK (Da.ixOf ([oRec].map (·.1))).cnt (Da.ksAll (Da.ixOf ([oRec].map (·.1))).K (Da.ixOf ([oRec].map (·.1))).I)))[0] = (([], [1], [[0]], [(0, 1)]) : Da.IAns) := by rfl
theorem oIn_ok : ∀ s ∈ oIn, (∀ a ∈ Da.bl s, 1 ≤ a) ∧ s.size ≤ 10000000 := by
  intro s hs
  rw [List.mem_singleton.1 hs]
  exact ⟨by decide, by decide⟩
theorem o_laid (w : World) : ∃ W, W = (((w.alloc (.cells #[.string ⟨#[97]⟩] 9)).alloc (.cells #[.string ⟨#[98]⟩] 9)).alloc (.cells #[.string ⟨#[97]⟩, .slice (some ⟨w.heap.size, 0, none⟩) 1 1, .slice (some ⟨w.heap.size + 1, 0, none⟩) 1 1, .string ⟨#[110]⟩] 31)).alloc (.cells #[.string ⟨#[97, 98]⟩] 9) ∧
    kRec.C W (some ⟨w.heap.size + 1 + 1, 0, none⟩) 1 [oRec] ∧ Kd.string.C W (some ⟨w.heap.size + 1 + 1 + 1, 0, none⟩) 1 oIn ∧ Below w.heap.size w W := by
  refine ⟨_, rfl, ?_, ?_, (((Below.refl _ _).alloc (Nat.le_refl _) _).alloc (by simp) _ |>.alloc (by simp; omega) _).alloc (by simp; omega) _⟩
  · have h1 := C_of_block (d := Kd.string) (cs := [.string ⟨#[97]⟩]) (heap_new w (.cells #[.string ⟨#[97]⟩] 9)) (reps_strs _ oRec.2.1) (by decide)
    have h2 := heap_new (w.alloc (.cells #[.string ⟨#[97]⟩] 9)) (.cells #[.string ⟨#[98]⟩] 9)
    rw [size_alloc] at h2
    have h2 := C_of_block (d := Kd.string) (cs := [.string ⟨#[98]⟩]) h2 (reps_strs _ oRec.2.2.1) (by decide)
    have h3 := heap_new ((w.alloc (.cells #[.string ⟨#[97]⟩] 9)).alloc (.cells #[.string ⟨#[98]⟩] 9)) (.cells #[.string ⟨#[97]⟩, .slice (some ⟨w.heap.size, 0, none⟩) 1 1, .slice (some ⟨w.heap.size + 1, 0, none⟩) 1 1, .string ⟨#[110]⟩] 31)
    rw [size_alloc, size_alloc] at h3
    refine Kd.C_alloc (C_of_block (d := kRec) (cs := [.string ⟨#[97]⟩, .slice (some ⟨w.heap.size, 0, none⟩) 1 1, .slice (some ⟨w.heap.size + 1, 0, none⟩) 1 1, .string ⟨#[110]⟩]) h3 ((Reps.none _ _).snoc (rec_K (u := oRec) (Kd.C_alloc (Kd.C_alloc h1 _) _) (by decide) (Kd.C_alloc h2 _) (by decide)) rfl) (by decide)) _
  · have h := heap_new (((w.alloc (.cells #[.string ⟨#[97]⟩] 9)).alloc (.cells #[.string ⟨#[98]⟩] 9)).alloc (.cells #[.string ⟨#[97]⟩, .slice (some ⟨w.heap.size, 0, none⟩) 1 1, .slice (some ⟨w.heap.size + 1, 0, none⟩) 1 1, .string ⟨#[110]⟩] 31)) (.cells #[.string ⟨#[97, 98]⟩] 9)
    rw [size_alloc, size_alloc, size_alloc] at h
    exact C_of_block (d := Kd.string) (cs := [.string ⟨#[97, 98]⟩]) h (reps_strs _ oIn) (by decide)

set_option maxHeartbeats 2000000 in
set_option maxRecDepth 100000 in
theorem owns_any (w : World) (hsp : tabSp w) : Calls Tryd.prog 11 #[] w fun e w' => e = .returned (.bool true) ∧ Below w.heap.size w w' := by
  obtain ⟨W, hW, hC, hN, hB⟩ := o_laid w
  have HUD := Lib.hid (userDict_any _ 1 [oRec] _ 1 oIn W hC oOk (tabSp_below hsp hB) hN oIn_ok (by decide))
  rw [oSort] at HUD
  have HB := Lib.hid hB
  clear hC hN hsp hB
  go_enter Tryd.func11, Tryd.ntmps11
  go_wp2_with fail
  rw [← hW]
  clear hW
  refine HUD.out.mono ?_
  rintro e w1 (⟨k, hk0, hkl, -⟩ | ⟨A, c, va, -, rfl, hc, hC1, hva, hb⟩)
  · exact absurd hkl (by show ¬ k < 1; omega)
  obtain ⟨A2, c2, rfl, hat⟩ := Da.ianAt hva
  have HB1 := Lib.hid (HB.out.trans (hb.mono HB.out.size))
  obtain ⟨ad, rfl, A0, c0, A1, c1, A3, c3, A4, c4, h0, h1, h2, h3, hR0, hR1, hR2, hR3⟩ := hat 0 (by decide)
  have hz : (0 * 4 : Nat) = 0 := rfl
  have he : ad.add 0 = ad := by cases ad; simp [Addr.add]
  rw [hz, he, oAns] at h1
  rw [oAns] at hR1
  obtain ⟨ad2, B1, d1, B2, d2, rfl, s0, s1, s2, s3, _, _, _, _⟩ := recs_at hC1 0 (by decide)
  have he2 : ad2.add (0 * 4) = ad2 := by cases ad2; simp [Addr.add]
  rw [he2] at s3
  replace s3 : w1.cell? ⟨ad2.block, ad2.off + 3, none⟩ = some (.string ⟨#[110]⟩) := s3
  replace h1 : w1.cell? ⟨ad.block, ad.off + 1, none⟩ = some (.slice A1 1 c1) := h1
  have HC1 := Lib.hid (Kd.R_reads' hR1).2.2
  have hl1 : ([oRec] : List Rec).length = 1 := rfl
  have hl2 : (List.map (Da.ansK (Da.ixOf ([oRec].map (·.1))).cnt (Da.ksAll (Da.ixOf ([oRec].map (·.1))).K (Da.ixOf ([oRec].map (·.1))).I)) oIn).length = 1 := rfl
  rw [hl1, hl2]
  clear hva hb hat hR0 hR1 hR2 hR3 h0 h2 h3 s0 s1 s2 hC1 hl1 hl2 HUD hc
  go_wp2_with fail
  have hD := Da.ints_new w1 [1] (by decide)
  have HBb := Lib.hid (HB1.out.alloc HB1.out.size (.cells #[.int .i64 1] 3))
  refine (sameInt_any A1 (some ⟨w1.heap.size, 0, none⟩) c1 1 [1] [1] _ (Kd.C_alloc HC1.out _) hD).mono ?_
  rintro e w5 ⟨rfl, hb⟩
  have HB5 := Lib.hid (HBb.out.trans (hb.mono HBb.out.size))
  clear hb hD h1 s3
  go_wp2_with fail
  go_ret
  exact ⟨by simp, HB5.out⟩
end Go.Proofs.YteoljiclmhmbnaaDoor.Tx

/-
  The walks of laws.sameRecords and laws.users.
-/
set_option linter.unusedVariables false
set_option linter.unusedSimpArgs false
namespace Go.Proofs.YteoljiclmhmbnaaDoor.Tx
open Go.RowKit Go.Proofs.YteoljiclmhmbnaaDoor.K Go.Proofs.YteoljiclmhmbnaaDoorW.PrintWords

set_option maxHeartbeats 2000000 in
set_option maxRecDepth 5000 in
theorem sameRecords_eq (A B : Option Addr) (c c' : Nat) (xs : List Rec) (w : World) (hC : kRec.C w A xs.length xs) (hD : kRec.C w B xs.length xs) :
    Calls Tryd.prog 14 #[.slice A xs.length c, .slice B xs.length c', .bool true] w fun e w' => e = .returned (.bool true) ∧ Below w.heap.size w w' := by
  have hm := hC.2.1
  have HC := Lib.hid hC
  have HD := Lib.hid hD
  clear hC hD
  go_enter Tryd.func14, Tryd.ntmps14
  go_wp2
  go_loopw [15] (fun i wr => ∃ k : Nat, k ≤ xs.length ∧ i = .int .i64 k ∧ Hid (Below w.heap.size w wr)) (fun i _ => xs.length - (intOf i).toNat)
  case atStart => exact ⟨0, Nat.zero_le _, rfl, Lib.hid (Below.refl _ _)⟩
  case round =>
    obtain ⟨k, hk, rfl, hbel⟩ := hrel
    by_cases hlt : k < xs.length
    · obtain ⟨ad, A1, a1, A2, a2, rfl, s0, s1, s2, s3, g1, _, g2, _⟩ := recs_at (Kd.C_below HC.out hbel.out) k hlt
      obtain ⟨bd, B1, b1, B2, b2, rfl, t0, t1, t2, t3, k1, _, k2, _⟩ := recs_at (Kd.C_below HD.out hbel.out) k hlt
      have HE := Lib.hid (fun W (h1 : Kd.string.C W A1 xs[k].2.1.length xs[k].2.1) (h2 : Kd.string.C W A2 xs[k].2.2.1.length xs[k].2.2.1) (h3 : Kd.string.C W B1 xs[k].2.1.length xs[k].2.1) (h4 : Kd.string.C W B2 xs[k].2.2.1.length xs[k].2.2.1) => sameRecord_eq xs[k] A1 A2 B1 B2 a1 a2 b1 b2 W h1 h2 h3 h4)
      have G1 := Lib.hid g1
      have G2 := Lib.hid g2
      have K1 := Lib.hid k1
      have K2 := Lib.hid k2
      clear g1 g2 k1 k2
      have p0 : (0 : Int) ≤ k := by omega
      have p1 : (k : Int) < (xs.length : Int) := by omega
      have hszr := hbel.out.size
      unfold recV at HE
      generalize xs[k] = u at *
      obtain ⟨a, ys, zs, d⟩ := u
      go_wp2
      go_region_with (go_at_call 42; refine (HE.out _ ?_ ?_ ?_ ?_).mono ?_; exact G1.out; exact G2.out; exact K1.out; exact K2.out; rintro e w2 ⟨rfl, hw2⟩; have HW2 := Lib.hid hw2; clear hw2)
      all_goals
        go_wp2
        exact ⟨⟨k + 1, by omega, by go_num, Lib.hid (hbel.out.trans ((show Below wr.heap.size wr w2 from (pw_below_drewN (Below.refl _ wr) 1).trans HW2.out).mono hszr))⟩, by simp [intOf]; omega⟩
    · go_wp2
      go_ret
      exact ⟨rfl, hbel.out⟩

abbrev R0 : Rec := (⟨#[97, 98]⟩, [⟨#[97]⟩, ⟨#[98]⟩], [⟨#[99]⟩, ⟨#[100]⟩], ⟨#[110]⟩)
abbrev T0 : List UInt8 := [97, 98, 44, 97, 32, 98, 44, 99, 32, 100, 44, 110, 10]
theorem T0_eq : T0 = textL [R0] ++ [] := rfl
theorem plain0 {s : ByteArray} (h : (toL s) ≠ [] ∧ (toL s).all (fun c => decide (32 < c.toNat) && decide (c.toNat ≠ 44) && decide (c.toNat ≠ 35)) = true) : plainW s := by
  refine ⟨fun e => h.1 (List.eq_nil_of_length_eq_zero (by rw [toL_size]; exact e)), fun c hc => ?_⟩
  have := List.all_eq_true.1 h.2 c hc
  simp at this
  exact ⟨this.1.1, this.1.2, this.2⟩
theorem ok0 : okRec R0 := by
  refine ⟨plain0 (by decide), plain0 (by decide), rfl, by decide, by decide, ?_, ?_⟩
  · intro x hx
    simp at hx
    rcases hx with rfl | rfl <;> exact plain0 (by decide)
  · intro x hx
    simp at hx
    rcases hx with rfl | rfl <;> exact plain0 (by decide)
theorem parse_nil : parse [] = some [] := by rw [parse, texts, rawL_nil]; rfl
theorem parse0 : parse T0 = some [R0] := by
  rw [T0_eq, parse_app [] [R0] (by intro u hu; simp at hu; subst hu; exact ok0), parse_nil]; rfl
theorem raw0 : (rawL T0).length ≤ 1099511627776 := by
  rw [T0_eq, rawL_count [R0] [] (by intro u hu; simp at hu; subst hu; exact ok0), rawL_nil]
  decide

end Go.Proofs.YteoljiclmhmbnaaDoor.Tx

/-
  Records in a row of one's own, set and swapped; laws.turned at records.
-/
set_option linter.unusedVariables false
set_option linter.unusedSimpArgs false
namespace Go.Proofs.YteoljiclmhmbnaaDoor.Tx
open Go.RowKit Go.Proofs.YteoljiclmhmbnaaDoor.K Go.Proofs.YteoljiclmhmbnaaDoorW.PrintWords

/-- What turned makes of a list. -/
def turnL {α : Type} (l : List α) (n : Nat) : List α :=
  if l = [] then [] else if n % 2 = 1 then (l.drop (n / 2 % l.length) ++ l.take (n / 2 % l.length)).reverse else l.drop (n / 2 % l.length) ++ l.take (n / 2 % l.length)
theorem turnL_map {α β : Type} (f : α → β) (l : List α) (n : Nat) : turnL (l.map f) n = (turnL l n).map f := by
  unfold turnL
  by_cases h : l = []
  · subst h; simp
  · rw [if_neg h, if_neg (by simpa using h)]
    simp only [List.length_map]
    split <;> simp [List.map_drop, List.map_take]
theorem turnL_perm {α : Type} (l : List α) (n : Nat) : (turnL l n).Perm l := by
  unfold turnL
  by_cases h : l = []
  · subst h; simp
  · rw [if_neg h]
    have key : (l.drop (n / 2 % l.length) ++ l.take (n / 2 % l.length)).Perm l := by
      refine List.perm_append_comm.trans ?_
      rw [List.take_append_drop]
    split
    · exact (List.reverse_perm _).trans key
    · exact key

/-- The list behind so many rounds of the swapping loop. -/
def swapped {α : Type} (l : List α) (i : Nat) : List (Option α) := (List.range l.length).map fun m => if m < i ∨ l.length - 1 - i < m then l[l.length - 1 - m]? else l[m]?
theorem swapped_get {α : Type} (l l' : List α) (i : Nat) (h : l'.map some = swapped l i) (m : Nat) (hm : m < l.length) : l'[m]? = if m < i ∨ l.length - 1 - i < m then l[l.length - 1 - m]? else l[m]? := by
  have e := congrArg (fun t => t[m]?) h
  simp only [swapped, List.getElem?_map, List.getElem?_range hm, Option.map_some] at e
  cases hl : l'[m]? with
  | none => rw [hl] at e; simp at e
  | some x => rw [hl] at e; simpa using e
theorem swapped_len {α : Type} {l l' : List α} {i : Nat} (h : l'.map some = swapped l i) : l'.length = l.length := by
  have := congrArg List.length h
  simpa [swapped] using this
theorem swapped_zero {α : Type} (l : List α) : l.map some = swapped l 0 := by
  apply List.ext_getElem?
  intro m
  simp only [swapped, List.getElem?_map]
  by_cases hm : m < l.length
  · rw [List.getElem?_range hm, List.getElem?_eq_getElem hm]
    simp only [Option.map_some]
    rw [if_neg (by omega), List.getElem?_eq_getElem hm]
  · simp [hm]
theorem swapped_end {α : Type} {l l' : List α} {i : Nat} (h : l'.map some = swapped l i) (hi : l.length ≤ 2 * i + 1) : l' = l.reverse := by
  apply List.ext_getElem?
  intro m
  by_cases hm : m < l.length
  · rw [swapped_get l l' i h m hm, List.getElem?_reverse hm]
    split
    · rfl
    · congr 1; omega
  · rw [List.getElem?_eq_none (by rw [swapped_len h]; omega), List.getElem?_eq_none (by simp; omega)]
theorem swapped_step {α : Type} {l l' : List α} {i : Nat} (h : l'.map some = swapped l i) (hi : 2 * i + 1 < l.length) (hl : i < l'.length) (hl2 : l.length - 1 - i < l'.length) :
    (((l'.set i (l'[l.length - 1 - i])).set (l.length - 1 - i) (l'[i]))).map some = swapped l (i + 1) := by
  apply List.ext_getElem?
  intro m
  have hlen := swapped_len h
  by_cases hm : m < l.length
  · simp only [swapped, List.getElem?_map, List.getElem?_range hm, Option.map_some]
    have h1 := swapped_get l l' i h i (by omega)
    have h2 := swapped_get l l' i h (l.length - 1 - i) (by omega)
    rw [if_neg (by omega)] at h1
    rw [if_neg (by omega)] at h2
    rw [List.getElem?_set, List.getElem?_set]
    by_cases e1 : l.length - 1 - i = m
    · rw [if_pos e1]
      simp only [List.length_set]
      rw [if_pos (by omega), if_pos (by omega)]
      have : l.length - 1 - m = i := by omega
      rw [this, ← h1, List.getElem?_eq_getElem hl]; rfl
    · rw [if_neg e1]
      by_cases e2 : i = m
      · rw [if_pos e2, if_pos (by omega), if_pos (by omega), ← e2, ← h2, List.getElem?_eq_getElem hl2]; rfl
      · rw [if_neg e2, swapped_get l l' i h m hm]
        by_cases hc : m < i ∨ l.length - 1 - i < m
        · rw [if_pos hc, if_pos (by omega), List.getElem?_eq_getElem (by omega)]; rfl
        · rw [if_neg hc, if_neg (by omega), List.getElem?_eq_getElem (by omega)]; rfl
  · simp [swapped, hm, hlen]

/-- The four cells of an element. -/
abbrev Sl : Type := Option Addr × Nat × Nat
abbrev Ch : Type := ByteArray × Sl × Sl × ByteArray
def slV (s : Sl) : Value := .slice s.1 s.2.1 s.2.2
def encC (m : Ch) : List Value := [.string m.1, slV m.2.1, slV m.2.2.1, .string m.2.2.2]
theorem encC_one (x : Ch) : ∀ u ∈ encC x, u.oneCell' = true := by
  intro u hu
  simp [encC] at hu
  rcases hu with rfl | rfl | rfl | rfl <;> rfl
def kCh : Kd Ch where
  sz := 4
  E := []
  K := fun _ x cs => cs = encC x
  M := fun _ _ _ x cs => cs = encC x
  K_len := by rintro w x cs rfl; rfl
  K_one := by rintro w x cs rfl u hu; exact encC_one x u hu
  K_below := fun _ h => h
  K_of_M := fun h => h
  M_mono := fun _ h => h
  M_bound := fun h => h
  M_move := fun _ h => h
  M_lower := fun _ h => h
theorem reps_iffC {base : Nat} {ok : Nat → Prop} {w : World} {l : List Ch} {inner : List Value} : Reps (kCh.M w base ok) kCh.sz l inner ↔ inner = l.flatMap encC := by
  have e2 : kCh.sz = 4 := rfl
  constructor
  · intro h
    induction l generalizing inner with
    | nil =>
      have := h.1
      simp at this
      rw [this]; rfl
    | cons m r ih =>
      have h0 := h.2 0 m (by simp)
      have hh : inner.take 4 = encC m := by
        have := h0
        rw [e2, Nat.zero_mul, List.drop_zero] at this
        exact this
      have ht := ih (inner := inner.drop 4) ⟨by rw [List.length_drop, h.1, e2, List.length_cons]; omega, fun j p hp => by
        have := h.2 (j + 1) p (by simpa using hp)
        rw [e2] at this ⊢
        rw [List.drop_drop, show 4 + j * 4 = (j + 1) * 4 by omega]
        exact this⟩
      rw [← List.take_append_drop 4 inner, hh, ht]
      rfl
  · rintro rfl
    refine ⟨?_, fun j p hp => ?_⟩
    · rw [e2]
      induction l with
      | nil => rfl
      | cons m r ih => rw [List.flatMap_cons, List.length_append, ih, List.length_cons]; simp [encC]; omega
    · rw [e2]
      show ((l.flatMap encC).drop (j * 4)).take 4 = encC p
      induction l generalizing j with
      | nil => simp at hp
      | cons m r ih =>
        cases j with
        | zero => simp at hp; subst hp; rfl
        | succ j =>
          have := ih j (by simpa using hp)
          rw [List.flatMap_cons, show (j + 1) * 4 = j * 4 + 1 + 1 + 1 + 1 by omega]
          show ((Value.string m.1 :: slV m.2.1 :: slV m.2.2.1 :: Value.string m.2.2.2 :: r.flatMap encC).drop (j * 4 + 1 + 1 + 1 + 1)).take 4 = encC p
          rw [List.drop_succ_cons, List.drop_succ_cons, List.drop_succ_cons, List.drop_succ_cons]
          exact this
theorem flat_lenC (l : List Ch) : (l.flatMap encC).length = 4 * l.length := by
  induction l with
  | nil => rfl
  | cons m r ih => rw [List.flatMap_cons, List.length_append, ih, List.length_cons]; simp [encC]; omega
theorem flat_setC : ∀ (l : List Ch) (i : Nat) (x : Ch), i < l.length → ((((l.flatMap encC).set (4 * i) (.string x.1)).set (4 * i + 1) (slV x.2.1)).set (4 * i + 2) (slV x.2.2.1)).set (4 * i + 3) (.string x.2.2.2) = (l.set i x).flatMap encC
  | [], i, x, h => by simp at h
  | m :: r, 0, x, h => rfl
  | m :: r, i + 1, x, h => by
    have ih := flat_setC r i x (by simpa using h)
    rw [List.set_cons_succ, List.flatMap_cons, List.flatMap_cons, ← ih, show 4 * (i + 1) = 4 * i + 1 + 1 + 1 + 1 by omega]
    rfl
/-- An element is put into a row of one's own. -/
theorem R_setC {e base g cap n : Nat} {ok : Nat → Prop} {w : World} {l : List Ch} (h : kCh.R e w base ok (.slice (some ⟨g, 0, none⟩) n cap) l) (i : Nat) (hi : i < l.length) (x : Ch) :
    kCh.R e ((((w.setCell ⟨g, i * 4, none⟩ (.string x.1)).setCell ⟨g, i * 4 + 1, none⟩ (slV x.2.1)).setCell ⟨g, i * 4 + 2, none⟩ (slV x.2.2.1)).setCell ⟨g, i * 4 + 3, none⟩ (.string x.2.2.2)) base ok (.slice (some ⟨g, 0, none⟩) n cap) (l.set i x) := by
  rw [Nat.mul_comm i 4]
  obtain ⟨h0, inner, ho, hr⟩ := h
  obtain rfl := reps_iffC.1 hr
  refine ⟨h0, (l.set i x).flatMap encC, ?_, reps_iffC.2 rfl⟩
  · obtain ⟨hl, h2⟩ := ho
    rcases h2 with ⟨he, _⟩ | ⟨g', cap', cur, he, hb, hh, hnc, hcm, hcs, ht⟩
    · cases he
    · cases he
      rw [List.length_set]
      refine ⟨by rw [flat_lenC, List.length_set, ← flat_lenC]; exact hl, .inr ⟨g, cap, _, rfl, hb, heap_set (heap_set (heap_set (heap_set hh _ _) _ _) _ _) _ _, hnc, hcm, by simpa using hcs, ?_⟩⟩
      rw [Array.toList_setIfInBounds, Array.toList_setIfInBounds, Array.toList_setIfInBounds, Array.toList_setIfInBounds, List.take_set, List.take_set, List.take_set, List.take_set, ht]
      exact flat_setC l i x hi
theorem infoCh : (Tryd.prog.info? 31).map (fun i => (i.zero, i.size, i.bytes)) = some (some (.agg #[.string ⟨#[]⟩, .slice none 0 0, .slice none 0 0, .string ⟨#[]⟩]), 4, 80) := by kernel_rfl

/-- The cells of a row of the call's own. -/
theorem row_cellsC {w : World} {base e g cap : Nat} {l : List Ch} (h : kCh.R e w base (fun _ => True) (.slice (some ⟨g, 0, none⟩) l.length cap) l) :
    base ≤ g ∧ g < w.heap.size ∧ (∀ j (hj : j < l.length), w.cell? ⟨g, j * 4, none⟩ = some (.string l[j].1) ∧ w.cell? ⟨g, j * 4 + 1, none⟩ = some (slV l[j].2.1) ∧ w.cell? ⟨g, j * 4 + 2, none⟩ = some (slV l[j].2.2.1) ∧ w.cell? ⟨g, j * 4 + 3, none⟩ = some (.string l[j].2.2.2)) ∧ (∀ j, w.frozen? ⟨g, j, none⟩ = false) := by
  obtain ⟨_, inner, ho, hr⟩ := h
  obtain rfl := reps_iffC.1 hr
  rcases ho.2 with ⟨he, _⟩ | ⟨g', cap', cur, he, hg, hh, _, _, _, ht⟩
  · cases he
  · cases he
    have hcell : ∀ j u, (l.flatMap encC)[j]? = some u → w.cell? ⟨g, j, none⟩ = some u := fun j u hu => by
      have := ho.cells (g := g) rfl j u hu
      rwa [add_plain] at this
    have hget : ∀ (l : List Ch) (j : Nat) (hj : j < l.length), (l.flatMap encC)[4 * j]? = some (.string l[j].1) ∧ (l.flatMap encC)[4 * j + 1]? = some (slV l[j].2.1) ∧ (l.flatMap encC)[4 * j + 2]? = some (slV l[j].2.2.1) ∧ (l.flatMap encC)[4 * j + 3]? = some (.string l[j].2.2.2) := by
      intro l
      induction l with
      | nil => intro j hj; simp at hj
      | cons m r ih =>
        intro j hj
        cases j with
        | zero => exact ⟨rfl, rfl, rfl, rfl⟩
        | succ j =>
          have := ih j (by simpa using hj)
          rw [show 4 * (j + 1) = 4 * j + 1 + 1 + 1 + 1 by omega]
          exact this
    exact ⟨hg, lt_of_heap hh, fun j hj => ⟨hcell _ _ (by rw [Nat.mul_comm]; exact (hget l j hj).1), hcell _ _ (by rw [Nat.mul_comm]; exact (hget l j hj).2.1), hcell _ _ (by rw [Nat.mul_comm]; exact (hget l j hj).2.2.1), hcell _ _ (by rw [Nat.mul_comm]; exact (hget l j hj).2.2.2)⟩, fun j => frozen_of_heap hh j⟩

theorem ret_eqC {a b : Int} (h : a = b) : Value.int .i64 a = .int .i64 b := by rw [h]
/-- The loop's relation. -/
def TurnRelC (l : List Ch) (g cap base : Nat) (w : World) (i j : Value) (wr : World) : Prop :=
  ∃ (k : Nat) (l' : List Ch), i = .int .i64 k ∧ j = .int .i64 ((l.length : Int) - 1 - k) ∧ 2 * k ≤ l.length ∧ l'.map some = swapped l k ∧ kCh.R 31 wr base (fun _ => True) (.slice (some ⟨g, 0, none⟩) l'.length cap) l' ∧ Below base w wr

set_option maxHeartbeats 1000000 in
theorem turnedRec_any (A : Option Addr) (c : Nat) (xs : List Ch) (n : Nat) (hn : n < 256) (w : World) (hc : xs.length ≤ c) (hC : kCh.C w A xs.length xs) (hb : xs.length * 160 ≤ 140737488355328) :
    Calls Tryd.prog 13 #[.slice A xs.length c, .int .u8 n] w (RetRow kCh 31 (turnL xs n) w) := by
  have hm := hC.2.1
  have HC := Lib.hid hC
  clear hC
  rcases hxs : xs with _ | ⟨x0, xr⟩
  · subst hxs
    go_enter Tryd.func13, Tryd.ntmps13
    go_wp2
    go_ret
    exact ⟨_, rfl, Kd.R_nil _ _ _ _ _, Below.refl _ _⟩
  have hne : xs ≠ [] := by rw [hxs]; simp
  rw [← hxs]
  have hpos : 0 < xs.length := by rw [hxs]; simp
  clear hxs x0 xr
  have HNE := Lib.hid hne
  clear hne
  obtain ⟨k, hk⟩ : ∃ k : Nat, k = n / 2 % xs.length := ⟨_, rfl⟩
  have hkl : k < xs.length := by rw [hk]; exact Nat.mod_lt _ hpos
  have HK := Lib.hid hk
  clear hk
  have ht : ((xs.length : Int) == 0) = false := by rw [beq_eq_false_iff_ne]; omega
  go_enter Tryd.func13, Tryd.ntmps13
  have hk' : ((n : Int) / 2 % (xs.length : Int)) = (k : Int) := by rw [HK.out, Int.natCast_emod, Int.natCast_ediv]; rfl
  obtain ⟨i0, hi0, _, hsz0, _⟩ := info_parts infoCh
  have hcutF := cut_from (P := Tryd.prog) 22 31 .i64 Tryd.underlying22 hi0 4 hsz0 A xs.length c (k : Int) (by omega) (by omega)
  have hcutT := cut_to (P := Tryd.prog) 22 31 .i64 Tryd.underlying22 hi0 A xs.length c (k : Int) (by omega) (by omega) hc
  rw [Int.toNat_natCast] at hcutF hcutT
  rw [if_neg (by omega)] at hcutF
  obtain ⟨A', hA'⟩ : ∃ A', A' = A.map (·.add (k * 4)) := ⟨_, rfl⟩
  rw [← hA'] at hcutF
  obtain ⟨m, hm'⟩ : ∃ m, m = xs.length - k := ⟨_, rfl⟩
  rw [← hm'] at hcutF
  have hd1 : kCh.C w A' m (xs.drop k) := by
    have := Kd.C_drop (m := k) (c := c) HC.out (by omega) hc
    rw [if_neg (by omega), show kCh.sz = 4 from rfl, List.length_drop] at this
    rw [hA', hm']
    exact this
  have ht1 : kCh.C w A k (xs.take k) := by
    have := Kd.C_take (m := k) HC.out (by omega)
    rw [List.length_take, Nat.min_eq_left (Nat.le_of_lt hkl)] at this
    exact this
  have hbd1 : (([] : List Ch).length + m) * 80 ≤ 140737488355328 := by rw [hm', List.length_nil]; omega
  have hbd2 : ((xs.drop k).length + k) * 80 ≤ 140737488355328 := by rw [List.length_drop]; omega
  have HBD1 := Lib.hid hbd1
  have HBD2 := Lib.hid hbd2
  have HD1 := Lib.hid hd1
  have HT1 := Lib.hid ht1
  have HA' := Lib.hid hA'
  have HM' := Lib.hid hm'
  clear hd1 ht1 hA' hm' hbd1 hbd2
  go_wp2
  go_region_law (first | (refine Kd.R_append_rows_step kCh (w0 := w) w.heap.size rfl (.tmp 18) (.tmp 21) 22 31 (.agg #[.string ⟨#[]⟩, .slice none 0 0, .slice none 0 0, .string ⟨#[]⟩]) 80 rfl Tryd.underlying22 (by kernel_rfl) rfl (by decide) (by decide) (.slice (some ⟨w.heap.size, 0, none⟩) 0 0) [] (xs.drop k) A' m (c - k) (fun _ => True) (fun _ => False) rfl rfl (Kd.R_below (R_empty _ _ w _ (Nat.le_refl _)) (below_drew (Below.refl _ _))) (Kd.C_drew (Kd.C_alloc HD1.out _)) (fun _ _ h => h) (fun _ h => h.elim) (fun _ _ => trivial) (below_drew ((Below.refl _ _).alloc (Nat.le_refl _) _)) (by simp) HBD1.out ?_; intro v1 w1 hR1 hB1 hg1 hat1) | (refine Kd.R_append_rows_step kCh (w0 := w) w.heap.size rfl (.tmp 22) (.tmp 25) 22 31 (.agg #[.string ⟨#[]⟩, .slice none 0 0, .slice none 0 0, .string ⟨#[]⟩]) 80 rfl Tryd.underlying22 (by kernel_rfl) rfl (by decide) (by decide) v1 (xs.drop k) (xs.take k) A k c (fun _ => True) (fun _ => False) rfl rfl (by simpa using hR1) (Kd.C_below HT1.out hB1) (fun _ _ h => h) (fun _ h => h.elim) (fun _ _ => trivial) hB1 hB1.size HBD2.out ?_; intro v2 w2 hR2 hB2 hg2 hat2))
  have hzl : (xs.drop k ++ xs.take k).length = xs.length := by simp; omega
  obtain ⟨A2, c2, hv2⟩ := Kd.R_slice hR2
  have hout : turnL xs n = if n % 2 = 1 then (xs.drop k ++ xs.take k).reverse else xs.drop k ++ xs.take k := by
    rw [turnL, if_neg HNE.out, ← HK.out]
  generalize hzs : xs.drop k ++ xs.take k = zs at hzl hv2 hR2 hout
  rw [hzl] at hv2
  subst hv2
  obtain ⟨g, rfl⟩ : ∃ g, A2 = some ⟨g, 0, none⟩ := by
    rcases hR2.2.choose_spec.1.2 with ⟨_, h0⟩ | ⟨g, cap, cur, he, _⟩
    · omega
    · simp at he; exact ⟨g, he.1⟩
  have HR2 := Lib.hid hR2
  have HB2 := Lib.hid hB2
  have HOUT := Lib.hid hout
  have HZL := Lib.hid hzl
  clear hR1 hB1 hg1 hat1 hR2 hB2 hg2 hat2 hzs hzl hout
  by_cases hodd : n % 2 = 1
  · have ho : ((n : Int) % 2 == 1) = true := by rw [beq_iff_eq]; omega
    rw [if_pos hodd] at HOUT
    have HODD := Lib.hid hodd
    clear hodd
    go_wp2
    go_loopw [7, 8] (fun i j wr => TurnRelC zs g c2 w.heap.size w i j wr) (fun _ j _ => (intOf j).toNat)
    case atStart => exact ⟨0, zs, rfl, by rw [HZL.out]; go_num, by omega, swapped_zero zs, by rw [HZL.out]; exact HR2.out, HB2.out⟩
    case round =>
      obtain ⟨i, l', rfl, rfl, hi, hsw, hR, hbel⟩ := hrel
      have hlen := swapped_len hsw
      by_cases hlt : 2 * i + 1 < zs.length
      · have hil : i < l'.length := by omega
        obtain ⟨j, hjj⟩ : ∃ j, j = zs.length - 1 - i := ⟨_, rfl⟩
        have hjl : j < l'.length := by omega
        obtain ⟨_, _, hcells, hfz⟩ := row_cellsC hR
        obtain ⟨hci, hci1, hci2, hci3⟩ := hcells i hil
        obtain ⟨hcj, hcj1, hcj2, hcj3⟩ := hcells j hjl
        have hfi := hfz (i * 4)
        have hfj := hfz (j * 4)
        have hfi1 := hfz (i * 4 + 1)
        have hfj1 := hfz (j * 4 + 1)
        have hfi2 := hfz (i * 4 + 2)
        have hfj2 := hfz (j * 4 + 2)
        have hfi3 := hfz (i * 4 + 3)
        have hfj3 := hfz (j * 4 + 3)
        unfold slV at hci1 hci2 hcj1 hcj2
        have hj : ((zs.length : Int) - 1 - i) = (j : Int) := by omega
        have p0 : (0 : Int) ≤ i := by omega
        have p1 : (i : Int) < (j : Int) := by omega
        have p2 : (i : Int) < (xs.length : Int) := by have := HZL.out; omega
        have p3 : (j : Int) < (xs.length : Int) := by have := HZL.out; omega
        have hne : ¬ i = j := by omega
        have HSW := Lib.hid hsw
        have HR := Lib.hid hR
        have HL := Lib.hid hlen
        have HJJ := Lib.hid hjj
        clear hsw hR hlen hjj hcells hfz
        go_wp2
        go_region
        go_wp2
        refine ⟨?_, ?_⟩
        · have hlen2 := HL.out
          have h1 := R_setC HR.out i hil l'[j]
          have h2 := R_setC h1 j (by rw [List.length_set]; exact hjl) l'[i]
          have hlow := (row_cellsC HR.out).1
          refine ⟨i + 1, (l'.set i l'[j]).set j l'[i], by go_num, ret_eqC (by omega), by omega, ?_, ?_, below_drew ((((((((hbel.setCell hlow _).setCell hlow _).setCell hlow _).setCell hlow _).setCell hlow _).setCell hlow _).setCell hlow _).setCell hlow _)⟩
          · have := swapped_step HSW.out hlt hil (by rw [← HJJ.out]; exact hjl)
            simp only [← HJJ.out] at this
            exact this
          · have h3 := Kd.R_below h2 (below_drew (Below.refl _ _))
            unfold slV at h3
            simpa using h3
        · simp [intOf]; omega
      · have HSW := Lib.hid hsw
        have HR := Lib.hid hR
        have HL := Lib.hid hlen
        clear hsw hR hlen
        have hd : decide ((i : Int) < (zs.length : Int) - 1 - i) = false := decide_eq_false (by omega)
        have hd' : ¬ ((i : Int) < (zs.length : Int) - 1 - i) := by omega
        clear hlt hi
        go_wp2
        go_ret
        refine ⟨_, rfl, ?_, hbel⟩
        have h := HR.out
        rw [HL.out, HZL.out] at h
        rw [HOUT.out, ← swapped_end HSW.out (by omega)]
        exact h
  · have ho : ((n : Int) % 2 == 1) = false := by rw [beq_eq_false_iff_ne]; omega
    rw [if_neg hodd] at HOUT
    clear hodd
    go_wp2
    go_ret
    refine ⟨_, rfl, ?_, HB2.out⟩
    rw [HOUT.out]
    exact HR2.out
end Go.Proofs.YteoljiclmhmbnaaDoor.Tx

/-
  The walk of laws.FnUserDictTwice.
-/
set_option linter.unusedVariables false
set_option linter.unusedSimpArgs false
namespace Go.Proofs.YteoljiclmhmbnaaDoor.Tx
open Go.RowKit Go.Proofs.YteoljiclmhmbnaaDoor.K Go.Proofs.YteoljiclmhmbnaaDoorW.PrintWords

/-- Records with their cells. -/
theorem to_pairs {w : World} {A : Option Addr} {n : Nat} {xs : List Rec} (h : kRec.C w A n xs) : ∃ ps : List (Rec × Ch), ps.map (·.1) = xs ∧ kCh.C w A n (ps.map (·.2)) ∧ ∀ p ∈ ps, kRec.K w p.1 (encC p.2) := by
  have key : ∀ j : Fin xs.length, ∃ x : Ch, kRec.K w xs[j] (encC x) ∧ ∀ ad, A = some ad → ∀ i u, (encC x)[i]? = some u → w.cell? (ad.add (j.1 * kCh.sz + i)) = some u := by
    intro ⟨j, hj⟩
    obtain ⟨ad, hA, hc⟩ := h.2.2 (by have := h.1; omega)
    obtain ⟨c, hl, hk, hcell⟩ := hc j xs[j] (List.getElem?_eq_getElem hj)
    have hk' := hk
    obtain ⟨_, _, rfl, rfl, _, _, rfl, ⟨A1, c1, rfl, h1, hC1⟩, _, _, rfl, ⟨A2, c2, rfl, h2, hC2⟩, rfl⟩ := hk
    refine ⟨(xs[j].1, (A1, xs[j].2.1.length, c1), (A2, xs[j].2.2.1.length, c2), xs[j].2.2.2), hk', fun ad' h' => ?_⟩
    rw [hA] at h'
    cases h'
    exact hcell
  refine ⟨List.ofFn fun j : Fin xs.length => (xs[j], (key j).choose), ?_, ?_, ?_⟩
  · apply List.ext_getElem
    · simp
    · intro i h1 h2
      simp
  · refine ⟨by simp [h.1], h.2.1, fun hp => ?_⟩
    obtain ⟨ad, hA, _⟩ := h.2.2 hp
    refine ⟨ad, hA, fun j p hj => ⟨encC p, rfl, rfl, ?_⟩⟩
    rw [List.getElem?_map, Option.map_eq_some_iff] at hj
    obtain ⟨q, hq, rfl⟩ := hj
    have hjl : j < xs.length := by
      have := (List.getElem?_eq_some_iff.1 hq).1
      simpa using this
    rw [List.getElem?_ofFn, dif_pos hjl] at hq
    cases hq
    exact (key ⟨j, hjl⟩).choose_spec.2 ad hA
  · intro p hp
    rw [List.mem_ofFn] at hp
    obtain ⟨j, rfl⟩ := hp
    exact (key j).choose_spec.1
theorem of_pairs {e base : Nat} {ok : Nat → Prop} {w : World} {v : Value} {ps : List (Rec × Ch)} (h : kCh.R e w base ok v (ps.map (·.2))) (hk : ∀ p ∈ ps, kRec.K w p.1 (encC p.2)) :
    ∃ A c, v = .slice A ps.length c ∧ ps.length ≤ c ∧ kRec.C w A ps.length (ps.map (·.1)) := by
  obtain ⟨A, c, rfl, hl, hC⟩ := Kd.R_reads h
  rw [List.length_map] at hl hC ⊢
  refine ⟨A, c, rfl, hl, by simp, hC.2.1, fun hp => ?_⟩
  obtain ⟨ad, hA, hc⟩ := hC.2.2 hp
  refine ⟨ad, hA, fun j p hj => ?_⟩
  rw [List.getElem?_map, Option.map_eq_some_iff] at hj
  obtain ⟨q, hq, rfl⟩ := hj
  obtain ⟨c, hcl, hck, hcell⟩ := hc j q.2 (by rw [List.getElem?_map, hq]; rfl)
  have : c = encC q.2 := hck
  subst this
  exact ⟨_, rfl, hk q (List.mem_of_getElem? hq), hcell⟩

/-- With a record twice there are two words alike. -/
theorem twice_dup {xs L : List Rec} {u : Rec} (hu : u ∈ xs) (hL : L.Perm (xs ++ [u])) : ¬ (L.map (·.1)).Nodup := by
  intro h
  have h1 := (hL.map (·.1)).nodup_iff.1 h
  rw [List.map_append, List.nodup_append] at h1
  exact h1.2.2 u.1 (List.mem_map.2 ⟨u, hu, rfl⟩) u.1 (by simp) rfl
theorem rr_len {xs : List Rec} (h : RightR xs) : xs.length ≤ 2000 := by
  have hs := h.sum
  have : 2 * (xs.map (·.1)).length ≤ Da.sumL (xs.map (·.1)) := by
    have hk := h.ok
    clear hs h
    induction xs with
    | nil => simp [Da.sumL]
    | cons x r ih =>
      have h1 := ih (fun u hu => hk u (List.mem_cons_of_mem _ hu))
      have h2 := (hk x (by simp)).1.1
      simp only [List.map_cons, Da.sumL, List.length_cons]
      simp only [List.length_map] at h1 ⊢
      omega
  rw [List.length_map] at this
  omega
theorem rr_size {xs : List Rec} (h : RightR xs) : ∀ u ∈ xs, u.1.size ≤ 4000 := by
  have hs := h.sum
  clear h
  induction xs with
  | nil => simp
  | cons x r ih =>
    simp only [List.map_cons, Da.sumL] at hs
    intro u hu
    rcases List.mem_cons.1 hu with rfl | hu
    · omega
    · exact ih (by omega) u hu
theorem okUD_twice {xs L : List Rec} {u : Rec} (h : RightR xs) (hu : u ∈ xs) (hL : L.Perm (xs ++ [u])) : OkUD L where
  pos := by rw [hL.length_eq]; simp
  len := by rw [hL.length_eq, List.length_append]; have := rr_len h; simp; omega
  pl v hv := by
    have hv' : v ∈ xs := by
      rcases List.mem_append.1 (hL.mem_iff.1 hv) with h1 | h1
      · exact h1
      · rw [List.mem_singleton.1 h1]; exact hu
    have hk := h.ok v hv'
    exact ⟨hk.1, rr_size h v hv', hk.2.1, hk.2.2.1⟩
  sm v hv := by
    have hv' : v ∈ xs := by
      rcases List.mem_append.1 (hL.mem_iff.1 hv) with h1 | h1
      · exact h1
      · rw [List.mem_singleton.1 h1]; exact hu
    exact (h.ok v hv').2.2.2
  sum hn := absurd hn (twice_dup hu hL)
def RetTr (w : World) (e : Ending) (w' : World) : Prop := e = .returned (.bool true) ∧ Below w.heap.size w w'
theorem keepW {w w' : World} {ad : Addr} {x0 x1 x2 x3 : Value} (q0 : w.cell? ad = some x0) (q1 : w.cell? ⟨ad.block, ad.off + 1, none⟩ = some x1) (q2 : w.cell? ⟨ad.block, ad.off + 2, none⟩ = some x2) (q3 : w.cell? ⟨ad.block, ad.off + 3, none⟩ = some x3) (h : Hid (Below w.heap.size w w')) :
    w'.cell? ad = some x0 ∧ w'.cell? ⟨ad.block, ad.off + 1, none⟩ = some x1 ∧ w'.cell? ⟨ad.block, ad.off + 2, none⟩ = some x2 ∧ w'.cell? ⟨ad.block, ad.off + 3, none⟩ = some x3 ∧ Hid (Below w.heap.size w w') :=
  ⟨(h.out.cell (World.block_lt_of_cell? _ _ q0)).trans q0, (h.out.cell (World.block_lt_of_cell? _ _ q1)).trans q1, (h.out.cell (World.block_lt_of_cell? _ _ q2)).trans q2, (h.out.cell (World.block_lt_of_cell? _ _ q3)).trans q3, h⟩

theorem strs_nil (w : World) : Kd.string.C w none ([] : List ByteArray).length [] := ⟨rfl, by simp, fun h => by simp at h⟩
theorem twice_ud (A : Option Addr) (c N : Nat) (L : List Rec) (w : World) (hN : L.length = N) (hC : kRec.C w A N L) (hok : OkUD L) (hnd : ¬ (L.map (·.1)).Nodup) (hsp : tabSp w) :
    Calls Tryd.prog 12 #[.slice A N c, .slice none 0 0] w fun e w' => e = .returned (.tuple #[.slice none 0 0, .slice none 0 0, .int .i64 1]) ∧ Below w.heap.size w w' := by
  subst hN
  refine Calls.mono (userDict_any A c L none 0 [] w hC hok hsp (strs_nil w) (fun s hs => by simp at hs) (by simp)) ?_
  rintro e w' (⟨k, _, _, _, rfl, hb⟩ | ⟨A', c', va, hdis, _⟩)
  · exact ⟨rfl, hb⟩
  · exact absurd (((sortR_perm L).map (·.1)).nodup_iff.1 (nodup_of (sortR_asc L) hdis)) hnd
theorem turn_n (A : Option Addr) (c N : Nat) (cs : List Ch) (n : Nat) (hn : n < 256) (w : World) (hN : cs.length = N) (hc : N ≤ c) (hC : kCh.C w A N cs) (hb : N * 160 ≤ 140737488355328) :
    Calls Tryd.prog 13 #[.slice A N c, .int .u8 n] w (RetRow kCh 31 (turnL cs n) w) := by
  subst hN
  exact turnedRec_any A c cs n hn w hc hC hb

set_option maxHeartbeats 8000000 in
set_option maxRecDepth 5000 in
theorem twice_walk (A : Option Addr) (c : Nat) (xs : List Rec) (at_ : Int) (n : Nat) (hn : n < 256) (w : World) (hC : kRec.C w A xs.length xs) (hc : xs.length ≤ c) (hsp : tabSp w) :
    Calls Tryd.prog 4 #[.slice A xs.length c, .int .i64 at_, .int .u8 n] w (RetTr w) := by
  have hm := hC.2.1
  have HC := Lib.hid hC
  have HSP := Lib.hid hsp
  have HOW := Lib.hid (fun (W : World) (h : Below w.heap.size w W) => (owns_any W (tabSp_below hsp h)).mono (R' := RetTr w) (fun e w' he => ⟨he.1, h.trans (he.2.mono h.size)⟩))
  clear hC hsp
  go_enter Tryd.func4, Tryd.ntmps4
  go_wp2_with fail
  refine (zzFits14_any A c xs w HC.out).mono ?_
  rintro e w1 ⟨b1, rfl, hb1, hl1⟩
  have HB1 := Lib.hid hb1
  have HL1 := Lib.hid hl1
  have hz1 := hl1.size
  clear hb1 hl1
  cases b1
  · go_wp2
    go_ret
    exact ⟨by simp, HL1.out⟩
  go_wp2_with fail
  refine (right_any A c xs w1 (Kd.C_below HC.out HL1.out) (HB1.out (by first | trivial | rfl))).mono ?_
  rintro e w2 ⟨b2, rfl, hb2, hl2⟩
  have HB2 := Lib.hid hb2
  have HL2 := Lib.hid (HL1.out.trans (hl2.mono hz1))
  have hz2 := HL2.out.size
  clear hb2 hl2 HB1 HL1 hz1
  cases b2
  · go_wp2_with fail
    refine (HOW.out w2 HL2.out).mono ?_
    rintro e w3 ⟨rfl, hl3⟩
    have HL3 := Lib.hid hl3
    clear hl3
    go_wp2
    go_ret
    exact ⟨by simp, HL3.out⟩
  have hrr := HB2.out (by first | trivial | rfl)
  have hlen := rr_len hrr
  have HRR := Lib.hid hrr
  clear hrr HB2
  by_cases ha0 : at_ < 0
  · go_wp2_with fail
    refine (HOW.out w2 HL2.out).mono ?_
    rintro e w3 ⟨rfl, hl3⟩
    have HL3 := Lib.hid hl3
    clear hl3
    go_wp2
    go_ret
    exact ⟨by simp, HL3.out⟩
  by_cases ha1 : (xs.length : Int) ≤ at_
  · go_wp2_with fail
    refine (HOW.out w2 HL2.out).mono ?_
    rintro e w3 ⟨rfl, hl3⟩
    have HL3 := Lib.hid hl3
    clear hl3
    go_wp2
    go_ret
    exact ⟨by simp, HL3.out⟩
  obtain ⟨k, rfl⟩ : ∃ k : Nat, at_ = (k : Int) := ⟨at_.toNat, by omega⟩
  have hk : k < xs.length := by omega
  obtain ⟨ad, A1, c1, A2, c2, rfl, s0, s1, s2, s3, g1, l1, g2, l2⟩ := recs_at (Kd.C_below HC.out HL2.out) k hk
  obtain ⟨ps, hps1, hps2, hps3⟩ := to_pairs (Kd.C_below HC.out HL2.out)
  have hpl : ps.length = xs.length := by rw [← hps1]; simp
  have HKU := Lib.hid (rec_K (u := xs[k]) g1 l1 g2 l2)
  have HMEM := Lib.hid (List.getElem_mem hk)
  obtain ⟨u, hu⟩ : ∃ u, u = xs[k] := ⟨_, rfl⟩
  rw [← hu] at s0 s1 s2 s3 HKU HMEM
  obtain ⟨x, hx⟩ : ∃ x : Ch, x = (u.1, (A1, u.2.1.length, c1), (A2, u.2.2.1.length, c2), u.2.2.2) := ⟨_, rfl⟩
  have HP1 := Lib.hid hps1
  have HP2 := Lib.hid hps2
  have HP3 := Lib.hid hps3
  have HX := Lib.hid hx
  have HPL := Lib.hid hpl
  clear hps1 hps2 hps3 g1 l1 g2 l2 hu hx hpl
  obtain ⟨a, ys, zs, d⟩ := u
  generalize hadk : ad.add (k * 4) = adk at s0 s1 s2 s3
  have HADK := Lib.hid hadk
  clear hadk ha0 ha1
  have hki : (k : Int) < (xs.length : Int) := by omega
  have hk0 : (0 : Int) ≤ (k : Int) := by omega
  go_upto_region 5 with fail
  have hadk := HADK.out
  obtain ⟨PS, hPS⟩ : ∃ PS, PS = ps ++ [((a, ys, zs, d), x)] := ⟨_, rfl⟩
  obtain ⟨CS, hCS⟩ : ∃ CS, CS = ([] ++ ps.map (·.2)) ++ [x] := ⟨_, rfl⟩
  have hcs : CS = PS.map (·.2) := by rw [hCS, hPS]; simp
  have hcl : CS.length = xs.length + 1 := by rw [hcs, hPS]; simp [HPL.out]
  obtain ⟨L, hL⟩ : ∃ L, L = (turnL PS n).map (·.1) := ⟨_, rfl⟩
  have hLp : L.Perm (xs ++ [(a, ys, zs, d)]) := by
    rw [hL]
    refine ((turnL_perm PS n).map (·.1)).trans ?_
    rw [hPS, List.map_append, HP1.out]
    exact List.Perm.refl _
  have hLl : L.length = xs.length + 1 := by rw [hLp.length_eq]; simp
  have hTl : (turnL PS n).length = xs.length + 1 := by rw [(turnL_perm PS n).length_eq, ← hcl, hcs]; simp
  have hKPS : ∀ p ∈ turnL PS n, kRec.K w2 p.1 (encC p.2) := fun p hp => by
    have := (turnL_perm PS n).mem_iff.1 hp
    rw [hPS] at this
    rcases List.mem_append.1 this with h1 | h1
    · exact HP3.out p h1
    · rw [List.mem_singleton.1 h1, HX.out]
      exact HKU.out
  have HCS := Lib.hid hCS
  have HCL := Lib.hid hcl
  have HTL := Lib.hid hTl
  have HKPS := Lib.hid hKPS
  have HTU := Lib.hid (fun (A0 : Option Addr) (c0 : Nat) (W : World) (h1 : xs.length + 1 ≤ c0) (h2 : kCh.C W A0 (xs.length + 1) CS) => turn_n A0 c0 (xs.length + 1) CS n hn W hcl h1 h2 (by omega))
  have HTM : Hid (turnL CS n = (turnL PS n).map (·.2)) := Lib.hid (by rw [hcs, turnL_map])
  have HUD := Lib.hid (fun (A0 : Option Addr) (c0 : Nat) (W : World) (h2 : kRec.C W A0 (xs.length + 1) L) (h3 : tabSp W) => twice_ud A0 c0 (xs.length + 1) L W hLl h2 (okUD_twice HRR.out HMEM.out hLp) (twice_dup HMEM.out hLp) h3)
  have HL := Lib.hid hL
  clear hPS hCS hcs hcl hL hLp hLl hTl hKPS
  have H5 : Hid (Below w2.heap.size w2 w2) := Lib.hid (Below.refl _ _)
  go_region_held3 (fun w' => w'.cell? adk = some (.string a) ∧ w'.cell? ⟨adk.block, adk.off + 1, none⟩ = some (.slice A1 ys.length c1) ∧ w'.cell? ⟨adk.block, adk.off + 2, none⟩ = some (.slice A2 zs.length c2) ∧ w'.cell? ⟨adk.block, adk.off + 3, none⟩ = some (.string d) ∧ Hid (Below w2.heap.size w2 w'))
    (first
      | (go_split_ands; refine keepW s0 s1 s2 s3 ?_; (first
        | with_reducible assumption
        | (repeat' (first | with_reducible assumption | refine hid_dr ?_ | refine hid_al ?_ _)))))
    (first
      | (refine Kd.R_append_rows_step kCh (w0 := w2) w2.heap.size (by rfl) (.tmp 28) (.tmp 29) 22 31 (.agg #[.string ⟨#[]⟩, .slice none 0 0, .slice none 0 0, .string ⟨#[]⟩]) 80 rfl Tryd.underlying22 infoCh rfl (by decide) (by decide) (.slice (some ⟨w2.heap.size, 0, none⟩) 0 0) [] (ps.map (·.2)) (some ad) xs.length c (fun _ => True) (fun _ => False) rfl rfl
          (by first | (refine R_empty _ _ _ _ ?_; simp; done) | (refine Kd.R_alloc (R_empty _ _ _ _ ?_) _; simp; done) | (have h := R_empty kCh 31 (w2.drew.alloc (.cells #[.string a, .slice A1 ys.length c1, .slice A2 zs.length c2, .string d] 31)) w2.heap.size (by rw [size_alloc]; exact Nat.le_succ _); rw [size_alloc] at h; exact h)) (Kd.C_below HP2.out (Hid.out (by first | with_reducible assumption | (repeat' (first | with_reducible assumption | refine hid_dr ?_ | refine hid_al ?_ _))))) (fun _ _ h => h) (fun _ h => h.elim) (fun _ _ => trivial)
          (Hid.out (by first | with_reducible assumption | (repeat' (first | with_reducible assumption | refine hid_dr ?_ | refine hid_al ?_ _)))) (Nat.le_trans (Nat.le_refl _) (Below.size (Hid.out (by first | with_reducible assumption | (repeat' (first | with_reducible assumption | refine hid_dr ?_ | refine hid_al ?_ _)))))) (by simp; omega) ?_; intro v1 w3 hR1 hB1 hg1 hat1; have HR3 := Lib.hid hR1; have HB3 := Lib.hid hB1; clear hR1 hB1 hat1; (try have HBX := Lib.hid (show ∀ j u, (encC x)[j]? = some u → w3.cell? ⟨w2.heap.size + 1, j, none⟩ = some u from fun j u hj => hg1.cell ((box1 w2.drew _ _ _ j).trans (by rw [HX.out] at hj; simpa [encC, slV] using hj)) (by simp [Value.ownBlock]))); (try have HBY := Lib.hid (show ∀ j u, (encC x)[j]? = some u → w3.cell? ⟨w2.heap.size, j, none⟩ = some u from fun j u hj => hg1.cell ((box0 w2.drew _ _ _ j).trans (by rw [HX.out] at hj; simpa [encC, slV] using hj)) (by simp [Value.ownBlock]))); clear hg1)
      | (refine Kd.R_append_rows_step kCh (w0 := w2) w2.heap.size (by rfl) (.tmp 28) (.tmp 29) 22 31 (.agg #[.string ⟨#[]⟩, .slice none 0 0, .slice none 0 0, .string ⟨#[]⟩]) 80 rfl Tryd.underlying22 infoCh rfl (by decide) (by decide) (.slice (some ⟨w2.heap.size + 1, 0, none⟩) 0 0) [] (ps.map (·.2)) (some ad) xs.length c (fun _ => True) (fun _ => False) rfl rfl
          (by first | (refine R_empty _ _ _ _ ?_; simp; done) | (refine Kd.R_alloc (R_empty _ _ _ _ ?_) _; simp; done) | (have h := R_empty kCh 31 (w2.drew.alloc (.cells #[.string a, .slice A1 ys.length c1, .slice A2 zs.length c2, .string d] 31)) w2.heap.size (by rw [size_alloc]; exact Nat.le_succ _); rw [size_alloc] at h; exact h)) (Kd.C_below HP2.out (Hid.out (by first | with_reducible assumption | (repeat' (first | with_reducible assumption | refine hid_dr ?_ | refine hid_al ?_ _))))) (fun _ _ h => h) (fun _ h => h.elim) (fun _ _ => trivial)
          (Hid.out (by first | with_reducible assumption | (repeat' (first | with_reducible assumption | refine hid_dr ?_ | refine hid_al ?_ _)))) (Nat.le_trans (Nat.le_refl _) (Below.size (Hid.out (by first | with_reducible assumption | (repeat' (first | with_reducible assumption | refine hid_dr ?_ | refine hid_al ?_ _)))))) (by simp; omega) ?_; intro v1 w3 hR1 hB1 hg1 hat1; have HR3 := Lib.hid hR1; have HB3 := Lib.hid hB1; clear hR1 hB1 hat1; (try have HBX := Lib.hid (show ∀ j u, (encC x)[j]? = some u → w3.cell? ⟨w2.heap.size + 1, j, none⟩ = some u from fun j u hj => hg1.cell ((box1 w2.drew _ _ _ j).trans (by rw [HX.out] at hj; simpa [encC, slV] using hj)) (by simp [Value.ownBlock]))); (try have HBY := Lib.hid (show ∀ j u, (encC x)[j]? = some u → w3.cell? ⟨w2.heap.size, j, none⟩ = some u from fun j u hj => hg1.cell ((box0 w2.drew _ _ _ j).trans (by rw [HX.out] at hj; simpa [encC, slV] using hj)) (by simp [Value.ownBlock]))); clear hg1)
      | (refine kapp_step (w0 := w2) kCh w2.heap.size (by rfl) (.tmp 30) (.tmp 35) 22 31 (.agg #[.string ⟨#[]⟩, .slice none 0 0, .slice none 0 0, .string ⟨#[]⟩]) 80 rfl Tryd.underlying22 infoCh rfl (by decide) (by decide) v1 ([] ++ ps.map (·.2)) x (encC x) (fun _ => True) (fun _ => False) w3.heap.size rfl rfl
          (fun j u hj => by rw [cell_of_heap (heap_new w3 _)]; rw [HX.out] at hj; simpa [encC, slV] using hj) rfl (fun _ h => h.elim) (fun _ _ => trivial) (Kd.R_alloc HR3.out _) (HB3.out.alloc HB3.out.size _) (Nat.le_trans HB3.out.size (by simp)) (by rw [List.nil_append, List.length_map, HPL.out]; omega) ?_; intro v2 w4 hR4 hB4 hg4; rw [← HCS.out] at hR4; obtain ⟨A4, c4, hv4, hl4, hC4⟩ := Kd.R_reads hR4; rw [HCL.out] at hv4 hl4 hC4; subst hv4; have HC4 := Lib.hid hC4; have HB4 := Lib.hid hB4; clear hR4 hB4 hC4 hg4)
      | (refine kapp_step (w0 := w2) kCh w2.heap.size (by rfl) (.tmp 30) (.tmp 35) 22 31 (.agg #[.string ⟨#[]⟩, .slice none 0 0, .slice none 0 0, .string ⟨#[]⟩]) 80 rfl Tryd.underlying22 infoCh rfl (by decide) (by decide) v1 ([] ++ ps.map (·.2)) x (encC x) (fun _ => True) (fun _ => False) (w2.heap.size + 1) rfl rfl
          HBX.out rfl (fun _ h => h.elim) (fun _ _ => trivial) HR3.out HB3.out HB3.out.size (by rw [List.nil_append, List.length_map, HPL.out]; omega) ?_; intro v2 w4 hR4 hB4 hg4; rw [← HCS.out] at hR4; obtain ⟨A4, c4, hv4, hl4, hC4⟩ := Kd.R_reads hR4; rw [HCL.out] at hv4 hl4 hC4; subst hv4; have HC4 := Lib.hid hC4; have HB4 := Lib.hid hB4; clear hR4 hB4 hC4 hg4)
      | (refine kapp_step (w0 := w2) kCh w2.heap.size (by rfl) (.tmp 30) (.tmp 35) 22 31 (.agg #[.string ⟨#[]⟩, .slice none 0 0, .slice none 0 0, .string ⟨#[]⟩]) 80 rfl Tryd.underlying22 infoCh rfl (by decide) (by decide) v1 ([] ++ ps.map (·.2)) x (encC x) (fun _ => True) (fun _ => False) w2.heap.size rfl rfl
          HBY.out rfl (fun _ h => h.elim) (fun _ _ => trivial) HR3.out HB3.out HB3.out.size (by rw [List.nil_append, List.length_map, HPL.out]; omega) ?_; intro v2 w4 hR4 hB4 hg4; rw [← HCS.out] at hR4; obtain ⟨A4, c4, hv4, hl4, hC4⟩ := Kd.R_reads hR4; rw [HCL.out] at hv4 hl4 hC4; subst hv4; have HC4 := Lib.hid hC4; have HB4 := Lib.hid hB4; clear hR4 hB4 hC4 hg4)
      | (go_at_call 13; go_split_ands; (with_reducible refine (HTU.out A4 c4 w4 hl4 HC4.out).mono ?_); rintro e w5 ⟨v5, rfl, hR5, hB5⟩; have HB5 : Hid (Below w2.heap.size w2 w5) := hid_tr HB4 hB5; rw [HTM.out] at hR5; obtain ⟨A5, c5, rfl, hl5, hC5⟩ := of_pairs hR5 (fun p hp => kRec.K_below HB5.out (HKPS.out p hp)); rw [HTL.out] at hl5 hC5; rw [HTL.out]; rw [← HL.out] at hC5; have HC5 := Lib.hid hC5; clear hR5 hB5 hC5)
      | (go_at_call 12; go_split_ands; (with_reducible refine (HUD.out A5 c5 w5 HC5.out (tabSp_below HSP.out (hid_tr HL2 HB5.out).out)).mono ?_); rintro e w6 ⟨rfl, hB6⟩; have HB6 : Hid (Below w2.heap.size w2 w6) := hid_tr HB5 hB6; clear hB6))
  all_goals
    have HL6 := hid_tr HL2 HB6.out
    go_wp2_with fail
    refine (HOW.out w6 HL6.out).mono ?_
    rintro e w7 ⟨rfl, hl7⟩
    have HL7 := Lib.hid hl7
    clear hl7
    go_wp2
    go_ret
    exact ⟨by simp, HL7.out⟩
end Go.Proofs.YteoljiclmhmbnaaDoor.Tx

/-
  The table of white space out of what the row lays; the walk at the row's arguments.
-/
set_option linter.unusedVariables false
set_option linter.unusedSimpArgs false
namespace Go.Proofs.YteoljiclmhmbnaaDoor.Tx
open Go.RowKit Go.Proofs.YteoljiclmhmbnaaDoor.K Go.Proofs.YteoljiclmhmbnaaDoorW.PrintWords

set_option maxRecDepth 100000 in
theorem sp_twice {W : World} (h : laidMetH Tryd.prog Rows.fnUserDictTwiceRow.laid W) : tabSp W := by
  rw [MakeChecks.laidMetH_plain _ _ _ (by kernel_rfl)] at h
  obtain ⟨ps, ⟨g0, t0, cs0, f0, p0, q0, hg0, ht0, hv0, hd0, ⟨g1, t1, cs1, f1, p1, q1, hg1, ht1, hv1, hd1, hr2, e1⟩, e0⟩, hn, hm⟩ := h
  obtain ⟨g2, t2, cs2, f2, p2, q2, hg2, ht2, hv2, hd2, hr3, e2⟩ := hr2
  obtain rfl := Option.some.inj ((show Tryd.prog.globalNamed "strings.asciiSpace" = some 0 by kernel_rfl).symm.trans hg2)
  obtain rfl := Option.some.inj ((show (Tryd.prog.globals[0]?).map (·.type) = some 182 by kernel_rfl).symm.trans ht2)
  unfold tabSp Lib.TabIs
  rw [hv2, ← Lib.cells_of_tab (e := 5) (zs := Lib.asciiSpaceTab) Tryd.underlying182 Tryd.underlying5 (by kernel_rfl) (by kernel_rfl) hd2]
theorem twice_int (A : Option Addr) (c : Nat) (xs : List Rec) (at_ n : Int) (hn : (Lit.int .u8 n).wf = true) (w : World) (hC : kRec.C w A xs.length xs) (hc : xs.length ≤ c) (hsp : tabSp w) :
    Calls Tryd.prog 4 #[.slice A xs.length c, .int .i64 at_, .int .u8 n] w (RetTr w) := by
  have h : 0 ≤ n ∧ n ≤ 255 := by simpa [Lit.wf, IntKind.min, IntKind.max, IntKind.signed, IntKind.bits] using hn
  obtain ⟨k, rfl⟩ : ∃ k : Nat, n = (k : Int) := ⟨n.toNat, by omega⟩
  exact twice_walk A c xs at_ k (by omega) w hC hc hsp
end Go.Proofs.YteoljiclmhmbnaaDoor.Tx

/-
  An argument that can be read as data is a value of its kind: kind by kind.
-/
set_option linter.unusedVariables false
set_option linter.unusedSimpArgs false
namespace Go.Proofs.YteoljiclmhmbnaaDoor.K
open Go.RowKit Go.Proofs.YteoljiclmhmbnaaDoorW.PrintWords

/-- What can be read at type e is of kind d, and V holds of it. -/
def Opens {α : Type} (P : Program) (w : World) (e : TypeId) (d : Kd α) (V : α → Prop) : Prop :=
  ∀ {H : Type} (enc : TypeId × Value → H) (base : Nat) (spare : Nat → Bool) (held : Bool) (fuel : Nat) (cs : List Value) (x : DataW H × List MemPlace),
    DataW.trod enc P w base spare held fuel e cs = some x → ∃ y, d.K w y cs ∧ V y

theorem Opens.string {P : Program} {w : World} {e : TypeId} (ht : P.underlying e = some .string) : Opens P w e Kd.string (fun s => s.size ≤ maxLen) := by
  intro H enc base spare held fuel cs x h
  obtain ⟨s, rfl, _, hs⟩ := DataW.trod_string ht h
  exact ⟨s, rfl, hs⟩
theorem Opens.bool {P : Program} {w : World} {e : TypeId} (ht : P.underlying e = some .bool) : Opens P w e Kd.bool (fun _ => True) := by
  intro H enc base spare held fuel cs x h
  obtain ⟨s, rfl, _⟩ := DataW.trod_bool ht h
  exact ⟨s, rfl, trivial⟩
theorem Opens.int {P : Program} {w : World} {e : TypeId} {k : IntKind} (ht : P.underlying e = some (.int k)) : Opens P w e (Kd.int k) (fun n => (Lit.int k n).wf = true) := by
  intro H enc base spare held fuel cs x h
  obtain ⟨s, rfl, _, hs⟩ := DataW.trod_int ht h
  exact ⟨s, rfl, hs⟩
theorem Opens.imp {α : Type} {P : Program} {w : World} {e : TypeId} {d : Kd α} {V V' : α → Prop} (h : Opens P w e d V) (hv : ∀ x, V x → V' x) : Opens P w e d V' := by
  intro H enc base spare held fuel cs x hx
  obtain ⟨y, h1, h2⟩ := h enc base spare held fuel cs x hx
  exact ⟨y, h1, hv _ h2⟩
theorem Opens.slice {α : Type} [Inhabited α] {P : Program} {w : World} {t e : TypeId} {d : Kd α} {V : α → Prop} (ht : P.underlying t = some (.slice e)) (hsz : P.cellsOf e = d.sz) (hd : Opens P w e d V) (q : Nat) :
    Opens P w t (Kd.slice q d) (fun xs => ∀ x ∈ xs, V x) := by
  intro H enc base spare held fuel cs x h
  rcases Deep.open_slice ht h with ⟨rfl, _⟩ | ⟨a, len, cap, m, n, D, Pl, rfl, _, hl, hm, hmm, _, hx⟩
  · exact ⟨[], ⟨none, 0, rfl, Nat.le_refl _, Kd.C_nil _ _⟩, by simp⟩
  · have hlm : len ≤ m := by rw [hmm]; split <;> omega
    obtain ⟨Y, hY⟩ := Deep.choose_lt (α := α) (n := len) (p := fun i y => ∃ cs', w.cells? base (a.add (i * P.cellsOf e)) (P.cellsOf e) = some cs' ∧ d.K w y cs' ∧ V y) (by
      intro i hi
      obtain ⟨cs', h1, h2⟩ := hx i (by omega)
      obtain ⟨y, h3, h4⟩ := hd enc base spare held n cs' _ h2
      exact ⟨y, cs', h1, h3, h4⟩)
    refine ⟨(List.range len).map Y, ⟨some a, cap, by simp, by simpa using hl, ?_⟩, ?_⟩
    · refine ⟨rfl, by simp [maxLen] at hm ⊢; omega, fun _ => ⟨a, rfl, fun j p hp => ?_⟩⟩
      rw [List.getElem?_map] at hp
      obtain ⟨i, hi, rfl⟩ := Option.map_eq_some_iff.1 hp
      obtain ⟨hlt, hie⟩ := List.getElem?_eq_some_iff.1 hi
      simp at hlt hie
      subst hie
      obtain ⟨cs', h1, h2, h3⟩ := hY j hlt
      obtain ⟨_, hlen, hc⟩ := World.cells?_some h1
      refine ⟨cs', d.K_len h2, h2, fun i u hu => ?_⟩
      have hi' : i < P.cellsOf e := by rw [← hlen]; exact (List.getElem?_eq_some_iff.1 hu).1
      have := hc i hi'
      rw [Deep.add_add, hsz] at this
      rw [this]; exact hu
    · intro y hy
      obtain ⟨i, hi, rfl⟩ := List.mem_map.1 hy
      obtain ⟨_, _, _, h⟩ := hY i (by simpa using hi)
      exact h

/-- Fields from an offset on. -/
def OpensL {α : Type} (P : Program) (w : World) (fs : List Field) (off : Nat) (d : Kd α) (V : α → Prop) : Prop :=
  ∀ {H : Type} (enc : TypeId × Value → H) (base : Nat) (spare : Nat → Bool) (held : Bool) (fuel : Nat) (cs : List Value),
    cs.length = off + d.sz → (∀ f ∈ fs, ∃ x, DataW.trod enc P w base spare held fuel f.type ((cs.drop f.offset).take (P.cellsOf f.type)) = some x) → ∃ y, d.K w y (cs.drop off) ∧ V y
theorem OpensL.one {α : Type} {P : Program} {w : World} {f : Field} {off : Nat} {d : Kd α} {V : α → Prop} (ho : f.offset = off) (hs : P.cellsOf f.type = d.sz) (hd : Opens P w f.type d V) : OpensL P w [f] off d V := by
  intro H enc base spare held fuel cs hl hf
  obtain ⟨x, hx⟩ := hf f (by simp)
  obtain ⟨y, h1, h2⟩ := hd enc base spare held fuel _ x hx
  refine ⟨y, ?_, h2⟩
  rw [ho, hs, List.take_of_length_le (by simp; omega)] at h1
  exact h1
theorem OpensL.cons {α β : Type} {P : Program} {w : World} {f : Field} {fs : List Field} {off : Nat} {d : Kd α} {d' : Kd β} {V : α → Prop} {V' : β → Prop} (ho : f.offset = off) (hs : P.cellsOf f.type = d.sz) (hd : Opens P w f.type d V)
    (h : OpensL P w fs (off + d.sz) d' V') : OpensL P w (f :: fs) off (Kd.pair d d') (fun y => V y.1 ∧ V' y.2) := by
  intro H enc base spare held fuel cs hl hf
  obtain ⟨x, hx⟩ := hf f (by simp)
  obtain ⟨y, h1, h2⟩ := hd enc base spare held fuel _ x hx
  have hp : (Kd.pair d d').sz = d.sz + d'.sz := rfl
  obtain ⟨z, h3, h4⟩ := h enc base spare held fuel cs (by omega) (fun g hg => hf g (List.mem_cons_of_mem _ hg))
  refine ⟨(y, z), ⟨(cs.drop off).take d.sz, cs.drop (off + d.sz), ?_, ?_, h3⟩, h2, h4⟩
  · rw [← List.drop_drop, List.take_append_drop]
  · rw [ho, hs] at h1; exact h1
theorem Opens.struct {α β : Type} {P : Program} {w : World} {t : TypeId} {fs : Array Field} {d : Kd α} {V : α → Prop} (ht : P.underlying t = some (.struct fs)) (hs : P.cellsOf t = d.sz) (h : OpensL P w fs.toList 0 d V)
    (f : β → α) (g : α → β) (hfg : ∀ a, f (g a) = a) : Opens P w t (Kd.iso d f) (fun y => V (f y)) := by
  intro H enc base spare held fuel cs x hx
  obtain ⟨xs, n, _, _, hl, hxl, hall⟩ := DataW.trod_struct ht hx
  obtain ⟨y, h1, h2⟩ := h enc base spare held n cs (by omega) (by
    intro f hf
    obtain ⟨i, hi⟩ := List.getElem?_of_mem hf
    have hi' : fs[i]? = some f := by simpa using hi
    have hlt : i < xs.length := by rw [hxl]; exact (Array.getElem?_eq_some_iff.1 hi').1
    exact ⟨xs[i], by rw [hall i f hi', List.getElem?_eq_getElem hlt]⟩)
  refine ⟨g y, ?_, by show V (f (g y)); rw [hfg]; exact h2⟩
  show d.K w (f (g y)) cs
  rw [hfg]
  simpa using h1

/-- An argument by its kind. -/
theorem open_slice_arg {α : Type} {P : Program} {w : World} {t : TypeId} {q : Nat} {d : Kd α} {V : List α → Prop} (ho : Opens P w t (Kd.slice q d) V) {H : Type} {enc : TypeId × Value → H} {base : Nat} {spare : Nat → Bool} {held : Bool} {v : Value} {D : DataW H} {p : List MemPlace}
    (hv : ∃ a n c, v = .slice a n c) (h : DataW.Trod enc P w base spare held t v D p) : ∃ A c xs, v = .slice A xs.length c ∧ xs.length ≤ c ∧ d.C w A xs.length xs ∧ V xs := by
  obtain ⟨a, n, c, rfl⟩ := hv
  obtain ⟨fuel, hf⟩ := h
  obtain ⟨xs, ⟨A, c', he, hlc, hC⟩, hV⟩ := ho enc base spare held fuel _ _ hf
  simp [Value.cells] at he
  obtain ⟨rfl, rfl, rfl⟩ := he
  exact ⟨_, _, xs, rfl, hlc, hC, hV⟩
end Go.Proofs.YteoljiclmhmbnaaDoor.K

/-
  A record that can be read as data is of its kind.
-/
set_option linter.unusedVariables false
set_option linter.unusedSimpArgs false
namespace Go.Proofs.YteoljiclmhmbnaaDoor.Tx
open Go.RowKit Go.Proofs.YteoljiclmhmbnaaDoor.K Go.Proofs.YteoljiclmhmbnaaDoorW.PrintWords

set_option maxRecDepth 20000 in
theorem opens_rec {w : World} : Opens Tryd.prog w 31 kRec (fun _ => True) := by
  have hs : Opens Tryd.prog w 9 Kd.string (fun s => s.size ≤ maxLen) := Opens.string Tryd.underlying9
  have hl : Opens Tryd.prog w 29 (Kd.slice 9 Kd.string) (fun xs => ∀ x ∈ xs, x.size ≤ maxLen) := Opens.slice Tryd.underlying29 (by kernel_rfl) hs 9
  obtain ⟨fs, hfs⟩ : ∃ fs, Tryd.prog.underlying 31 = some (.struct fs) := ⟨_, Tryd.underlying31⟩
  have hl4 : ∃ f0 f1 f2 f3 : Field, fs.toList = [f0, f1, f2, f3] ∧ f0.offset = 0 ∧ f0.type = 9 ∧ f1.offset = 1 ∧ f1.type = 29 ∧ f2.offset = 2 ∧ f2.type = 29 ∧ f3.offset = 3 ∧ f3.type = 9 := by
    have h := Tryd.underlying31
    rw [hfs] at h
    simp only [Option.some.injEq, TypeDesc.struct.injEq] at h
    subst h
    exact ⟨_, _, _, _, rfl, rfl, rfl, rfl, rfl, rfl, rfl, rfl, rfl⟩
  obtain ⟨f0, f1, f2, f3, hl4, o0, t0, o1, t1, o2, t2, o3, t3⟩ := hl4
  have c9 : Tryd.prog.cellsOf 9 = 1 := by kernel_rfl
  have c31 : Tryd.prog.cellsOf 29 = 1 := by kernel_rfl
  have k3 := @OpensL.one _ Tryd.prog w f3 3 Kd.string _ o3 (by rw [t3]; exact c9) (by rw [t3]; exact @hs)
  have k2 := @OpensL.cons _ _ Tryd.prog w f2 [f3] 2 (Kd.slice 9 Kd.string) Kd.string _ _ o2 (by rw [t2]; exact c31) (by rw [t2]; exact @hl) @k3
  have k1 := @OpensL.cons _ _ Tryd.prog w f1 [f2, f3] 1 (Kd.slice 9 Kd.string) _ _ _ o1 (by rw [t1]; exact c31) (by rw [t1]; exact @hl) @k2
  have k0 := @OpensL.cons _ _ Tryd.prog w f0 [f1, f2, f3] 0 Kd.string _ _ _ o0 (by rw [t0]; exact c9) (by rw [t0]; exact @hs) @k1
  rw [← hl4] at k0
  have h := @Opens.struct _ _ Tryd.prog w 31 fs _ _ hfs (by kernel_rfl) @k0 (fun x : Rec => x) (fun x => x) (fun _ => rfl)
  intro H enc base spare held fuel cs x hx
  obtain ⟨y, h1, _⟩ := @h H enc base spare held fuel cs x hx
  exact ⟨y, h1, trivial⟩
end Go.Proofs.YteoljiclmhmbnaaDoor.Tx
