/-
  The walk of impl.unkBack.
-/
import Derived.Test.YteoljiclmhmbnaaDoorUkD
import Derived.Test.YteoljiclmhmbnaaDoorUkA
import Derived.Test.YteoljiclmhmbnaaDoorRows
import Derived.Maps.OwnOps
import Derived.WalkArith
import Derived.StringKeys
import Derived.Shelf.SlIter.Nil
import Derived.Shelf.SortM.Plain
import Derived.Shelf.SortM.SortNone
import Derived.Ground.GgzProg
import Derived.Ground.SlgmProg
import Derived.Test.YteoljiclmhmbnaaDoorProg
import Derived.Recover
import Derived.Defers
import Derived.Handy
import Derived.Test.YteoljiclmhmbnaaDoorUkC
import Derived.Deep.RegionLaw
import Derived.BigRegion
import Derived.Deep.RegionWith
import Derived.Outline
import Derived.Deep.QuietTactic
import Derived.BigQuiet
import Derived.Deep.LoopGhost
set_option linter.unusedVariables false
set_option linter.unusedSimpArgs false
namespace Go.Proofs.YteoljiclmhmbnaaDoor.Tx
open Go Go.RowKit Go.Proofs.YteoljiclmhmbnaaDoor.K Go.Proofs.YteoljiclmhmbnaaDoorW.PrintWords Go.Proofs.YteoljiclmhmbnaaDoor.Mi Go.Maps

theorem hidU_dr {w0 w : World} (h : Hid (Below w0.heap.size w0 w)) : Hid (Below w0.heap.size w0 w.drew) := Lib.hid (pw_below_drewN h.out 1)
theorem hidU_al {w0 w : World} (h : Hid (Below w0.heap.size w0 w)) (o : Obj) : Hid (Below w0.heap.size w0 (w.alloc o)) := Lib.hid (h.out.alloc h.out.size o)
theorem hidU_tr {w0 w w' : World} (h : Hid (Below w0.heap.size w0 w)) (h' : Below w.heap.size w w') : Hid (Below w0.heap.size w0 w') := Lib.hid (h.out.trans (h'.mono h.out.size))
theorem mos_at {w : World} {A : Option Addr} {n : Nat} {xs : List Mo} (h : kMo.C w A n xs) : ∀ j (hj : j < xs.length), ∃ ad, A = some ad ∧
    w.cell? (ad.add (j * 3)) = some (.int .i16 xs[j].1) ∧ w.cell? ⟨(ad.add (j * 3)).block, (ad.add (j * 3)).off + 1, none⟩ = some (.int .i16 xs[j].2.1) ∧ w.cell? ⟨(ad.add (j * 3)).block, (ad.add (j * 3)).off + 2, none⟩ = some (.int .i16 xs[j].2.2) := by
  intro j hj
  obtain ⟨ad, hA, hc⟩ := h.2.2 (by have := h.1; omega)
  obtain ⟨c, hl, hk, hcell⟩ := hc j xs[j] (List.getElem?_eq_getElem hj)
  obtain ⟨_, _, rfl, rfl, _, _, rfl, rfl, rfl⟩ := hk
  have e : kMo.sz = 3 := rfl
  rw [e] at hcell
  have h0 := hcell 0 _ rfl
  have h1' := hcell 1 _ rfl
  have h2' := hcell 2 _ rfl
  rw [Nat.add_zero] at h0
  rw [add_field _ _ _ (by decide)] at h1' h2'
  exact ⟨ad, hA, h0, h1', h2'⟩
/-- What the region reads. -/
def Seen (bm bu g k : Nat) (ad2 : Addr) (L R Wt : Int) (A2 : Option Addr) (N c2 : Nat) (Ak : Option Addr) (ck : Nat) (w' : World) : Prop :=
  w'.cell? ⟨bm, 0, none⟩ = some (.int .i16 L) ∧ w'.cell? ⟨bm, 1, none⟩ = some (.int .i16 R) ∧ w'.cell? ⟨bm, 2, none⟩ = some (.int .i16 Wt) ∧ w'.cell? ⟨bu, 4, none⟩ = some (.slice A2 N c2) ∧ w'.cell? (ad2.add k) = some (.slice Ak 2 ck) ∧
  w'.cell? ⟨g, k * 5, none⟩ = some (.int .i64 0) ∧ w'.cell? ⟨g, k * 5 + 1, none⟩ = some (.int .i64 0) ∧ w'.cell? ⟨g, k * 5 + 2, none⟩ = some (.int .i64 0) ∧ w'.cell? ⟨g, k * 5 + 3, none⟩ = some (.int .i64 0) ∧ w'.cell? ⟨g, k * 5 + 4, none⟩ = some (.slice none 0 0) ∧
  (∀ j, w'.frozen? ⟨g, j, none⟩ = false)
theorem Seen.keep {bm bu g k : Nat} {ad2 : Addr} {L R Wt : Int} {A2 : Option Addr} {N c2 : Nat} {Ak : Option Addr} {ck : Nat} {w5 w' : World} (h : Seen bm bu g k ad2 L R Wt A2 N c2 Ak ck w5) (hg : ∃ cs t, w5.heap[g]? = some (.cells cs t (0, 0))) (hb : Hid (Below w5.heap.size w5 w')) : Seen bm bu g k ad2 L R Wt A2 N c2 Ak ck w' := by
  obtain ⟨h1, h2, h3, h4, h5, h6, h7, h8, h9, h10, h11⟩ := h
  have e : ∀ {a : Addr} {v : Value}, w5.cell? a = some v → w'.cell? a = some v := fun hc => (hb.out.cell (World.block_lt_of_cell? _ _ hc)).trans hc
  obtain ⟨cs, t, hg⟩ := hg
  have hg' := (hb.out.block g (lt_of_heap hg)).trans hg
  exact ⟨e h1, e h2, e h3, e h4, e h5, e h6, e h7, e h8, e h9, e h10, fun j => frozen_of_heap hg' j⟩

/-- What the region reads, but for the entry itself. -/
abbrev S5 (bm bu : Nat) (ad2 : Addr) (k : Nat) (L R Wt : Int) (N c2 : Nat) (Ak : Option Addr) (ck : Nat) (w' : World) : Prop :=
  w'.cell? ⟨bm, 0, none⟩ = some (.int .i16 L) ∧ w'.cell? ⟨bm, 1, none⟩ = some (.int .i16 R) ∧ w'.cell? ⟨bm, 2, none⟩ = some (.int .i16 Wt) ∧ w'.cell? ⟨bu, 4, none⟩ = some (.slice (some ad2) N c2) ∧ w'.cell? (ad2.add k) = some (.slice Ak 2 ck)
/-- A row of one's own that is not empty. -/
theorem own_some {w : World} {e base n c : Nat} {A : Option Addr} {xs : List ByteArray} {ok : Nat → Prop} (h : Kd.string.R e w base ok (.slice A n c) xs) (hn : 0 < xs.length) : ∃ a : Addr, A = some a ∧ base ≤ a.block ∧ xs.length ≤ c ∧ Kd.string.C w (some a) xs.length xs := by
  obtain ⟨A', c', hv, hl, hC⟩ := Kd.R_reads h
  cases hv
  obtain ⟨a, ha, _⟩ := hC.2.2 hn
  subst ha
  refine ⟨a, rfl, ?_, hl, hC⟩
  obtain ⟨_, _, ho, _⟩ := h
  rcases ho.2 with ⟨he, _⟩ | ⟨g, cap, cur, he, hb, _⟩
  · cases he
  · injection he with he
    injection he with he
    subst he
    exact hb
theorem UB.cell0 {T : List Un} {cf : Nat → Int} {k g : Nat} {w wr : World} (h : UB T cf k g w wr) {i : Nat} (hi : i < T.length) : (∃ v, wr.cell? ⟨g, i * 5, none⟩ = some (.int .i64 v)) ∧ wr.frozen? ⟨g, i * 5, none⟩ = false := by
  obtain ⟨raws, h1, h2, _⟩ := h.buf
  exact ⟨⟨_, (h2.cells (j := i) (by omega)).1⟩, frozen_of_heap h2 _⟩
theorem grown_set (w : World) (g o : Nat) (v : Value) : w.grownBy (w.setCell ⟨g, o, none⟩ v) (some g) := ⟨rfl, rfl, rfl, by rw [size_set]; exact Nat.le_refl _, fun k hk hne => heap_set_ne (fun e => hne (by rw [e])) _ _⟩
/-- The classes, as far as they are told. -/
def cfL (T : List Un) (left : Lit → Bool) (i : Nat) : Int := if left (.int .i32 (clsU (T.getD i default) : Int)) = true then -1 else (clsU (T.getD i default) : Int)
def cfT (T : List Un) (left : Lit → Bool) (q d j t i : Nat) : Int := if q ≤ i ∧ i ≤ q + d then (if i < t then (j : Int) else -1) else cfL T left i
theorem getD_cls {T : List Un} {i : Nat} (hi : i < T.length) : clsU (T.getD i default) = (T.map clsU)[i]'(by rw [List.length_map]; exact hi) := by
  rw [List.getElem_map]
  simp [List.getD, hi]
theorem cfT_end {T : List Un} {left : Lit → Bool} {q d j : Nat} (hgr : Grp (T.map clsU)) (hq : idxF (T.map clsU) j = some q) (hd : (dupF (T.map clsU) j).getD 0 = d) (i : Nat) (hi : i < T.length) :
    cfT T (fun z => left z && !z.sameKey (.int .i32 (j : Int))) q d j (q + d + 1) i = cfL T (fun z => left z && !z.sameKey (.int .i32 (j : Int))) i := by
  have hk := (grp_idx hgr hq hd).2 i (by rw [List.length_map]; exact hi)
  rw [← getD_cls hi] at hk
  unfold cfT
  by_cases h : q ≤ i ∧ i ≤ q + d
  · rw [if_pos h, if_pos (by omega)]
    have e := hk.1 h
    unfold cfL
    rw [e, if_neg]
    simp [Lit.sameKey]
  · rw [if_neg h]
theorem cfT_start {T : List Un} {left : Lit → Bool} {q d j : Nat} (hgr : Grp (T.map clsU)) (hq : idxF (T.map clsU) j = some q) (hd : (dupF (T.map clsU) j).getD 0 = d) (hl : left (.int .i32 (j : Int)) = true) (i : Nat) (hi : i < T.length) :
    cfL T left i = cfT T (fun z => left z && !z.sameKey (.int .i32 (j : Int))) q d j q i := by
  have hk := (grp_idx hgr hq hd).2 i (by rw [List.length_map]; exact hi)
  rw [← getD_cls hi] at hk
  unfold cfT
  by_cases h : q ≤ i ∧ i ≤ q + d
  · rw [if_pos h, if_neg (by omega)]
    unfold cfL
    rw [hk.1 h, if_pos hl]
  · rw [if_neg h]
    unfold cfL
    have hne : clsU (T.getD i default) ≠ j := fun e => h (hk.2 e)
    have hs : (Lit.int .i32 (clsU (T.getD i default) : Int)).sameKey (.int .i32 (j : Int)) = false := Maps.sameKey_ne (by intro e; injection e with _ e; omega)
    simp only [hs, Bool.not_false, Bool.and_true]
theorem cfT_step {T : List Un} {left : Lit → Bool} {q d j t : Nat} (h1 : q ≤ t) (h2 : t ≤ q + d) (i : Nat) : (if i = t then (j : Int) else cfT T left q d j t i) = cfT T left q d j (t + 1) i := by
  unfold cfT
  by_cases e : i = t
  · subst e
    rw [if_pos rfl, if_pos ⟨h1, h2⟩, if_pos (by omega)]
  · rw [if_neg e]
    by_cases h : q ≤ i ∧ i ≤ q + d
    · rw [if_pos h, if_pos h]
      by_cases h3 : i < t
      · rw [if_pos h3, if_pos (by omega)]
      · rw [if_neg h3, if_neg (by omega)]
    · rw [if_neg h, if_neg h]
theorem rng_iter {w : World} {b r n cnt : Nat} {D : DataW Unit} {left : Lit → Bool} (h : w.ranges Tryd.prog tI32 (plainElem Tryd.prog tI32) b r n D left cnt) : ∃ o, w.heap[r]? = some o ∧ ∀ cs t f, o ≠ Obj.cells cs t f := by
  obtain ⟨_, _, _, _, _, _, _, _, _, hit, _⟩ := h
  exact ⟨_, hit, fun cs t f e => by cases e⟩
theorem rng_ne {w : World} {b r n cnt g : Nat} {D : DataW Unit} {left : Lit → Bool} (h : w.ranges Tryd.prog tI32 (plainElem Tryd.prog tI32) b r n D left cnt) {cs : Array Value} {t : TypeId} {f : Nat × Nat} (hg : w.heap[g]? = some (.cells cs t f)) : r ≠ g ∧ b ≠ g := by
  obtain ⟨_, _, _, _, _, hb, _, _, _, hit, _⟩ := h
  refine ⟨fun e => ?_, fun e => ?_⟩
  · rw [e, hg] at hit; cases hit
  · rw [e, hg] at hb; cases hb
theorem cell_far {w : World} {a b : Addr} {v : Value} (h : a.block ≠ b.block) : (w.setCell b v).cell? a = w.cell? a := World.cell?_setCell_other _ _ _ _ (fun e => h (by rw [e]))
theorem S5.set {bm bu g : Nat} {ad2 : Addr} {k : Nat} {L R Wt : Int} {N c2 : Nat} {Ak : Option Addr} {ck : Nat} {w6 : World} (h : S5 bm bu ad2 k L R Wt N c2 Ak ck w6) (h1 : bm ≠ g) (h2 : bu ≠ g) (h3 : ad2.block ≠ g) (o : Nat) (v0 v1 v2 v3 v4 : Value) :
    S5 bm bu ad2 k L R Wt N c2 Ak ck (((((w6.setCell ⟨g, o, none⟩ v0).setCell ⟨g, o + 1, none⟩ v1).setCell ⟨g, o + 2, none⟩ v2).setCell ⟨g, o + 3, none⟩ v3).setCell ⟨g, o + 4, none⟩ v4) := by
  have e : ∀ a : Addr, a.block ≠ g → (((((w6.setCell ⟨g, o, none⟩ v0).setCell ⟨g, o + 1, none⟩ v1).setCell ⟨g, o + 2, none⟩ v2).setCell ⟨g, o + 3, none⟩ v3).setCell ⟨g, o + 4, none⟩ v4).cell? a = w6.cell? a := fun a ha => by
    rw [cell_far ha, cell_far ha, cell_far ha, cell_far ha, cell_far ha]
  obtain ⟨q0, q1, q2, q3, q4⟩ := h
  have e4 : (ad2.add k).block ≠ g := by have : (ad2.add k).block = ad2.block := by unfold Addr.add; split <;> rfl
                                        rw [this]; exact h3
  exact ⟨(e _ h1).trans q0, (e _ h1).trans q1, (e _ h1).trans q2, (e _ h2).trans q3, (e _ e4).trans q4⟩
set_option maxHeartbeats 2000000 in
set_option maxRecDepth 5000 in
theorem unkBack_any (T : List Un) (ns : List ByteArray) (hg : Grp (T.map clsU)) (hok : ∀ u ∈ T, OkU ns u) (hns : ns.length ≤ 100000) (A1 A2 : Option Addr) (c1 c2 m1 m2 m3 : Nat) (D1 D2 : DataW Unit) (w : World) (hM : kMo.C w A1 T.length (T.map moU)) (hC : kRow.C w A2 T.length (T.map tailU))
    (h1 : MapI m1 (idxF (T.map clsU)) T.length D1 w) (h2 : MapI m2 (dupF (T.map clsU)) T.length D2 w) (hl : T.length ≤ 100000) :
    Calls Tryd.prog 56 #[.agg #[.slice A1 T.length c1, .map (some m1), .map (some m2), .map (some m3), .slice A2 T.length c2]] w fun e w' =>
      ∃ g, e = .returned (.slice (some ⟨g, 0, none⟩) T.length T.length) ∧ kUn.C w' (some ⟨g, 0, none⟩) T.length T ∧ w.heap.size ≤ g ∧ Below w.heap.size w w' := by
  obtain ⟨N, hN⟩ : ∃ N, T.length = N := ⟨_, rfl⟩
  have HN := Lib.hid hN
  have HM := Lib.hid hM
  have HC := Lib.hid hC
  have H1 := Lib.hid h1
  have H2 := Lib.hid h2
  have HG := Lib.hid hg
  have HOK := Lib.hid hok
  rw [hN] at hl HM HC H1 H2 ⊢
  have hmk := fun W => make_un N (by omega) W
  clear hM hC h1 h2 hN hg hok
  obtain ⟨bu, hbu⟩ : ∃ bu, bu = w.heap.size := ⟨_, rfl⟩
  have HU0 := Lib.hid (UB.zero (T := T) (cf := fun _ => -1) (w := w) ((Below.refl _ w).alloc (Nat.le_refl _) (.cells #[.slice A1 N c1, .map (some m1), .map (some m2), .map (some m3), .slice A2 N c2] tUnk)))
  have hb0 : ((w.alloc (.cells #[.slice A1 N c1, .map (some m1), .map (some m2), .map (some m3), .slice A2 N c2] tUnk)).alloc (.cells ((List.replicate T.length zU).flatMap encU).toArray tUn)).heap[bu]? = some (.cells #[.slice A1 N c1, .map (some m1), .map (some m2), .map (some m3), .slice A2 N c2] tUnk (0, 0)) := by
    rw [hbu]
    exact heap_old (heap_new w _) _
  rw [HN.out] at HU0 hb0
  go_enter Tryd.func56, Tryd.ntmps56
  go_wp2_with fail
  rw [size_alloc] at HU0
  generalize (w.alloc (.cells #[.slice A1 N c1, .map (some m1), .map (some m2), .map (some m3), .slice A2 N c2] tUnk)).alloc (.cells ((List.replicate N zU).flatMap encU).toArray tUn) = w2 at HU0 hb0 ⊢
  rw [← hbu] at HU0
  have HBU := Lib.hid hbu
  rw [← hbu]
  obtain ⟨g, hgg⟩ : ∃ g, g = bu + 1 := ⟨_, rfl⟩
  rw [← hgg] at HU0 ⊢
  have HGG := Lib.hid hgg
  have HB0 := Lib.hid hb0
  clear hbu hgg hb0
  go_wp2_with fail
  go_loopw [15] (fun iv wr => ∃ k : Nat, k ≤ N ∧ iv = .int .i64 k ∧ Hid (UB T (fun _ => -1) k g w wr) ∧ Hid (wr.heap[bu]? = some (.cells #[.slice A1 N c1, .map (some m1), .map (some m2), .map (some m3), .slice A2 N c2] tUnk (0, 0)))) (fun iv _ => N - (intOf iv).toNat)
  case atStart => exact ⟨0, Nat.zero_le _, rfl, HU0, HB0⟩
  case round =>
    clear HU0 HB0 hmk
    obtain ⟨k, hk, rfl, HU, HBX⟩ := hrel
    have hbw := HU.out.hb
    have hbg : bu ≠ g := by have := HGG.out; omega
    by_cases hlt : k < N
    · have hkT : k < T.length := by rw [HN.out]; exact hlt
      have hou := HOK.out _ (List.getElem_mem hkT)
      have b0 : wr.cell? ⟨bu, 0, none⟩ = some (.slice A1 N c1) := by rw [cell_of_heap HBX.out]; rfl
      have b4 : wr.cell? ⟨bu, 4, none⟩ = some (.slice A2 N c2) := by rw [cell_of_heap HBX.out]; rfl
      obtain ⟨ad1, rfl, o0, o1, o2⟩ := mos_at (Kd.C_below HM.out hbw) k (by rw [List.length_map]; exact hkT)
      obtain ⟨ad2, Ak, ck, rfl, r0, hck, hCk⟩ := rows_one (Kd.C_below HC.out hbw) k (by rw [List.length_map]; exact hkT)
      rw [List.getElem_map] at o0 o1 o2
      rw [List.getElem_map] at r0 hck hCk
      obtain ⟨u, hu⟩ : ∃ u, T[k] = u := ⟨_, rfl⟩
      rw [hu] at o0 o1 o2 r0 hck hCk hou
      have hl2 : (tailU u).length = 2 := hou.n
      rw [hl2] at r0 hck hCk
      have HUe := Lib.hid hu
      obtain ⟨L, hL⟩ : ∃ L, u.2.1 = L := ⟨_, rfl⟩
      obtain ⟨R, hR⟩ : ∃ R, u.2.2.1 = R := ⟨_, rfl⟩
      obtain ⟨Wt, hW⟩ : ∃ Wt, u.2.2.2.1 = Wt := ⟨_, rfl⟩
      have o0' : wr.cell? (ad1.add (k * 3)) = some (.int .i16 L) := by rw [← hL]; exact o0
      have o1' : wr.cell? ⟨(ad1.add (k * 3)).block, (ad1.add (k * 3)).off + 1, none⟩ = some (.int .i16 R) := by rw [← hR]; exact o1
      have o2' : wr.cell? ⟨(ad1.add (k * 3)).block, (ad1.add (k * 3)).off + 2, none⟩ = some (.int .i16 Wt) := by rw [← hW]; exact o2
      have HL := Lib.hid hL
      have HR := Lib.hid hR
      have HW := Lib.hid hW
      have HCk := Lib.hid hCk
      have wl : IntKind.i64.wrap L = L := by have := hou.l; rw [IntKind.wrap_i64]; omega
      have wr64 : IntKind.i64.wrap R = R := by have := hou.r; rw [IntKind.wrap_i64]; omega
      have ww : IntKind.i64.wrap Wt = Wt := by have := hou.w; rw [IntKind.wrap_i64]; omega
      have hkz : (k : Int) < (N : Int) := by omega
      clear o0 o1 o2 hCk hL hR hW hu
      go_upto_region 6 with fail
      obtain ⟨w5, hw5⟩ : ∃ w5, w5 = wr.alloc (.cells #[.int .i16 L, .int .i16 R, .int .i16 Wt] 171) := ⟨_, rfl⟩
      have hb5 : Below wr.heap.size wr w5 := by rw [hw5]; exact (Below.refl _ _).alloc (Nat.le_refl _) _
      have q0 : w5.cell? ⟨wr.heap.size, 0, none⟩ = some (.int .i16 L) := by rw [hw5, cell_of_heap (heap_new wr _)]; rfl
      have q1 : w5.cell? ⟨wr.heap.size, 1, none⟩ = some (.int .i16 R) := by rw [hw5, cell_of_heap (heap_new wr _)]; rfl
      have q2 : w5.cell? ⟨wr.heap.size, 2, none⟩ = some (.int .i16 Wt) := by rw [hw5, cell_of_heap (heap_new wr _)]; rfl
      have HU5 := Lib.hid (HU.out.below hb5)
      have HBX5 := Lib.hid ((hb5.block bu (lt_of_heap HBX.out)).trans HBX.out)
      have q3 : w5.cell? ⟨bu, 4, none⟩ = some (.slice (some ad2) N c2) := by rw [cell_of_heap HBX5.out]; rfl
      have q4 : w5.cell? (ad2.add k) = some (.slice Ak 2 ck) := (hb5.cell (World.block_lt_of_cell? _ _ r0)).trans r0
      obtain ⟨raws, hrl, hbuf, hlow, hz⟩ := HU5.out.buf
      have hkr : k < raws.length := by rw [hrl]; exact hkT
      have hzk : raws[k] = zU := by
        have := hz k (Nat.le_refl _) hkT
        rw [List.getElem?_eq_getElem hkr] at this
        exact Option.some.inj this
      obtain ⟨q5, q6, q7, q8, q9⟩ := hbuf.cells hkr
      rw [hzk] at q5 q6 q7 q8 q9
      replace q5 : w5.cell? ⟨g, k * 5, none⟩ = some (.int .i64 0) := q5
      replace q6 : w5.cell? ⟨g, k * 5 + 1, none⟩ = some (.int .i64 0) := q6
      replace q7 : w5.cell? ⟨g, k * 5 + 2, none⟩ = some (.int .i64 0) := q7
      replace q8 : w5.cell? ⟨g, k * 5 + 3, none⟩ = some (.int .i64 0) := q8
      replace q9 : w5.cell? ⟨g, k * 5 + 4, none⟩ = some (.slice none 0 0) := q9
      have q10 : ∀ j, w5.frozen? ⟨g, j, none⟩ = false := fun j => frozen_of_heap hbuf j
      have HG5 := Lib.hid (show ∃ cs t, w5.heap[g]? = some (.cells cs t (0, 0)) from ⟨_, _, hbuf⟩)
      have HCK := Lib.hid (fun (W : World) (h : Hid (Below w5.heap.size w5 W)) => show Calls Tryd.prog 60 #[.slice Ak 2 ck] W (RetRow Kd.string 9 (tailU u) W) from by
        have h1 := clone_strs Ak ck (tailU u) W (by rw [hl2]; exact Kd.C_below HCk.out (hb5.trans (h.out.mono hb5.size))) (by rw [hl2]; decide)
        rw [hl2] at h1
        exact h1)
      have H5 : Hid (Below w5.heap.size w5 w5) := Lib.hid (Below.refl _ _)
      rw [← hw5]
      have HL2 := Lib.hid hl2
      clear hw5 hb5 hbuf hlow hz hzk hkr hrl raws b0 b4 o0' o1' o2' r0 hl2
      have nbm : wr.heap.size ≠ g := by have := HU.out.lt; omega
      have nad : ad2.block ≠ g := by
        obtain ⟨ad, _, _, ha, hcc, _⟩ := rows_one HC.out k (by rw [List.length_map]; exact hkT)
        cases ha
        have h1 := World.block_lt_of_cell? _ _ hcc
        have h2 : (ad2.add k).block = ad2.block := by unfold Addr.add; split <;> rfl
        rw [h2] at h1
        have := HU.out.hg
        omega
      generalize wr.heap.size = bm at q0 q1 q2 nbm ⊢
      have HN1 := Lib.hid nbm
      have HN2 := Lib.hid hbg
      have HN3 := Lib.hid nad
      have HS5 := Lib.hid (show Seen bm bu g k ad2 L R Wt (some ad2) N c2 Ak ck w5 from ⟨q0, q1, q2, q3, q4, q5, q6, q7, q8, q9, q10⟩)
      have qq : S5 bm bu ad2 k L R Wt N c2 Ak ck w5.drew := ⟨q0, q1, q2, q3, q4⟩
      have AFT := Lib.hid (show ∀ w6 : World, Hid (Below w5.heap.size w5 w6) → S5 bm bu ad2 k L R Wt N c2 Ak ck w6 ∧ (∀ v0 v1 v2 v3 v4, S5 bm bu ad2 k L R Wt N c2 Ak ck (((((w6.setCell ⟨g, k * 5, none⟩ v0).setCell ⟨g, k * 5 + 1, none⟩ v1).setCell ⟨g, k * 5 + 2, none⟩ v2).setCell ⟨g, k * 5 + 3, none⟩ v3).setCell ⟨g, k * 5 + 4, none⟩ v4)) ∧
          w6.cell? ⟨g, k * 5, none⟩ = some (.int .i64 0) ∧ w6.cell? ⟨g, k * 5 + 1, none⟩ = some (.int .i64 0) ∧ w6.cell? ⟨g, k * 5 + 2, none⟩ = some (.int .i64 0) ∧ w6.cell? ⟨g, k * 5 + 3, none⟩ = some (.int .i64 0) ∧ w6.cell? ⟨g, k * 5 + 4, none⟩ = some (.slice none 0 0) ∧ (∀ j, w6.frozen? ⟨g, j, none⟩ = false) from fun w6 hb => by
        obtain ⟨y0, y1, y2, y3, y4, y5, y6, y7, y8, y9, y10⟩ := HS5.out.keep HG5.out hb
        exact ⟨⟨y0, y1, y2, y3, y4⟩, fun v0 v1 v2 v3 v4 => S5.set ⟨y0, y1, y2, y3, y4⟩ HN1.out HN2.out HN3.out (k * 5) v0 v1 v2 v3 v4, y5, y6, y7, y8, y9, y10⟩)
      clear nbm nad hbg q5 q6 q7 q8 q9 q10
      go_region_held3 (fun w' => w'.cell? ⟨bm, 0, none⟩ = some (.int .i16 L) ∧ w'.cell? ⟨bm, 1, none⟩ = some (.int .i16 R) ∧ w'.cell? ⟨bm, 2, none⟩ = some (.int .i16 Wt) ∧ w'.cell? ⟨bu, 4, none⟩ = some (.slice (some ad2) N c2) ∧ w'.cell? (ad2.add k) = some (.slice Ak 2 ck))
        (first
          | with_reducible assumption
          | (with_reducible exact QQ6)
          | (with_reducible exact QQ7 _ _ _ _ _))
        (first
          | (go_at_call 60; go_split_ands; (with_reducible refine (HCK.out _ (hidU_dr H5)).mono ?_); rintro e w6 ⟨v6, rfl, hR6, hB6⟩; obtain ⟨A6, c6, rfl⟩ := Kd.R_slice hR6; have HR6 := Lib.hid hR6; have HB6 := hidU_tr (hidU_dr H5) hB6; obtain ⟨QQ6, QQ7, y5, y6, y7, y8, y9, y10⟩ := AFT.out w6 HB6; clear hR6 hB6))
      all_goals
        have HU6 := Lib.hid (HU5.out.below HB6.out)
        obtain ⟨a6, rfl, hab, hcc6, hC6⟩ := own_some HR6.out (by rw [HL2.out]; decide)
        have hg6 : a6.block ≠ g := by
          have h1 := HU5.out.lt
          have h2 : w5.drew.heap.size = w5.heap.size := rfl
          omega
        have HP6 := Lib.hid (UB.put HU6.out hkT (a := a6) (cc := c6) (by rw [HUe.out]; exact hcc6) hg6 (by rw [HUe.out]; exact hC6))
        have hbx6 : w6.heap[bu]? = some (.cells #[.slice (some ad1) N c1, .map (some m1), .map (some m2), .map (some m3), .slice (some ad2) N c2] tUnk (0, 0)) := (HB6.out.block bu (lt_of_heap HBX5.out)).trans HBX5.out
        have HB6' := Lib.hid (show ∀ v0 v1 v2 v3 v4, (((((w6.setCell ⟨g, k * 5, none⟩ v0).setCell ⟨g, k * 5 + 1, none⟩ v1).setCell ⟨g, k * 5 + 2, none⟩ v2).setCell ⟨g, k * 5 + 3, none⟩ v3).setCell ⟨g, k * 5 + 4, none⟩ v4).heap[bu]? = some (.cells #[.slice (some ad1) N c1, .map (some m1), .map (some m2), .map (some m3), .slice (some ad2) N c2] tUnk (0, 0)) from fun v0 v1 v2 v3 v4 => by
          rw [heap_set_ne HN2.out, heap_set_ne HN2.out, heap_set_ne HN2.out, heap_set_ne HN2.out, heap_set_ne HN2.out]; exact hbx6)
        rw [HUe.out, HL.out, HR.out, HW.out] at HP6
        rw [HL2.out] at HR6
        clear hbx6 hcc6 hC6 hab hg6 QQ6 QQ7 y5 y6 y7 y8 y9 y10 q0 q1 q2 q3 q4
        go_wp2
        go_roundw
        case rel => exact ⟨k + 1, hlt, by go_num, (by first | exact HP6 | (have h := HP6; simpa using h)), Lib.hid (HB6'.out _ _ _ _ _)⟩
        case measure => simp [intOf]; omega
    · have hkN : N = k := by omega
      subst hkN
      have b1 : wr.cell? ⟨bu, 1, none⟩ = some (.map (some m1)) := by rw [cell_of_heap HBX.out]; rfl
      have HM1 := Lib.hid (H1.out.below hbw)
      have HSUB0 := Lib.hid (show ∀ i, i < T.length → (-1 : Int) = cfL T (Maps.has D1) i from fun i hi => by
        unfold cfL
        have hm : clsU (T.getD i default) ∈ T.map clsU := by rw [getD_cls hi]; exact List.getElem_mem _
        have hou := HOK.out _ (List.getElem_mem hi)
        have hlt2 : clsU (T.getD i default) ≤ 2147483647 := by
          have e : T.getD i default = T[i] := by simp [List.getD, hi]
          rw [e]
          have := hou.c
          unfold clsU
          omega
        have hat := H1.out.at_ (clsU (T.getD i default)) hlt2
        have hx : idxF (T.map clsU) (clsU (T.getD i default)) = some ((T.map clsU).idxOf (clsU (T.getD i default))) := by unfold idxF; rw [if_pos hm]
        rw [hx] at hat
        rw [if_pos (Maps.has_true_of_atKey hat)])
      have HUL := Lib.hid (HU.out.ext (cf' := cfL T (Maps.has D1)) (fun i hi => HSUB0.out i hi))
      clear HSUB0 HU
      go_wp2_with (first
        | (at_range; refine wpList_range_own _ rfl _ tMp rfl tI32 tI32 lawI Tryd.underlying89 _ m1 N D1 rfl HM1.out.own ?_; intro w0 hrg0 hg0 hs0)
        | fail)
      go_frame
      have HR0 := Lib.hid hrg0
      have hne2 : ∀ i (hi : i < T.length), 0 < (tailU T[i]).length := fun i hi => by
        have := (HOK.out _ (List.getElem_mem hi)).n
        unfold tailU
        omega
      have HNE := Lib.hid hne2
      have hb0' : Below wr.heap.size wr w0 := (Below.refl _ _).grown hg0 (Nat.le_refl _) (fun q hq => by cases hq)
      have HU0 := Lib.hid (HUL.out.below hb0')
      have HBX0 := Lib.hid ((hb0'.block bu (lt_of_heap HBX.out)).trans HBX.out)
      have hrw : w.heap.size ≤ wr.heap.size := hbw.size
      obtain ⟨r, hr⟩ : ∃ r, r = wr.heap.size := ⟨_, rfl⟩
      rw [← hr] at HR0 hrw ⊢
      clear hrg0 hg0 hs0 hne2 hb0' HUL HBX b1 hr hbw HM1
      go_loopw [8] (fun _ w3 => ∃ (left : Lit → Bool) (cnt : Nat), Hid (w3.ranges Tryd.prog tI32 (plainElem Tryd.prog tI32) m1 r N D1 left cnt) ∧ Hid (UB T (cfL T left) N g w w3) ∧ Hid (w3.heap[bu]? = some (.cells #[.slice A1 N c1, .map (some m1), .map (some m2), .map (some m3), .slice A2 N c2] tUnk (0, 0))) ∧ Hid (∀ kl, left kl = true → Maps.has D1 kl = true)) (fun _ w3 => w3.rangeLeft m1 r)
      case atStart => exact ⟨_, _, HR0, HU0, HBX0, Lib.hid (fun kl h => h)⟩
      case round =>
        clear HR0 HU0 HBX0
        obtain ⟨left, cnt, HRG, HU, HBX, HSUB⟩ := hrel
        go_wp2_with (first
          | (at_next; refine wpList_next_ranges_ii _ rfl _ rfl tI32 tI32 .i32 .i32 lawI Tryd.underlying21 Tryd.underlying21 m1 r N _ _ _ rfl HRG.out ?_ ?_)
          | fail)
        · intro hc0 hl0
          have HF := Lib.hid (show kUn.C wr (some ⟨g, 0, none⟩) N T from by
            have h1 := HU.out
            rw [← HN.out] at h1 ⊢
            refine h1.fin (fun i hi => ?_) (by rw [HN.out]; omega)
            have hou := (HOK.out _ (List.getElem_mem hi)).c
            have e : T.getD i default = T[i] := by simp [List.getD, hi]
            unfold cfL
            rw [hl0, if_neg (by simp), e]
            unfold clsU
            omega)
          have HBW := Lib.hid HU.out.hb
          have HGG := Lib.hid HU.out.hg
          clear hc0 hl0 HU HRG
          go_wp2_with fail
          go_ret
          exact ⟨g, rfl, HF.out, HGG.out, HBW.out⟩
        · intro x c w4 cnt1 hwx hwc hlx hat hrg1 hlt1 hg1 hs1 hen
          obtain ⟨j, hj3, hxj⟩ := H1.out.ks _ (HSUB.out _ hlx)
          injection hxj with _ hxj
          subst hxj
          obtain ⟨q, hq, hcq⟩ := H1.out.some_of hj3 hat
          subst hcq
          obtain ⟨d, hd⟩ : ∃ d, (dupF (T.map clsU) j).getD 0 = d := ⟨_, rfl⟩
          have hqd := (grp_idx HG.out hq hd).1
          rw [List.length_map, HN.out] at hqd
          have HQ := Lib.hid hq
          have HD := Lib.hid hd
          have hU4 := HU.out.grown hg1 (rng_iter HRG.out) hrw HNE.out
          have hbox4 : w4.heap[bu]? = some (.cells #[.slice A1 N c1, .map (some m1), .map (some m2), .map (some m3), .slice A2 N c2] tUnk (0, 0)) := (hg1.block bu (lt_of_heap HBX.out) (fun e => by
            obtain ⟨o, ho, hno⟩ := rng_iter HRG.out
            rw [← Option.some.inj e, HBX.out] at ho
            exact hno _ _ _ (Option.some.inj ho).symm)).trans HBX.out
          have HU4 := Lib.hid (hU4.ext (fun i hi => cfT_start HG.out hq hd hlx i hi))
          have HBX4 := Lib.hid hbox4
          have HRG4 := Lib.hid hrg1
          have HSUB4 := Lib.hid (show ∀ kl, (fun z : Lit => left z && !z.sameKey (.int .i32 (j : Int))) kl = true → Maps.has D1 kl = true from fun kl h => HSUB.out kl (by simp only [Bool.and_eq_true] at h; exact h.1))
          have HLT := Lib.hid (show cnt1 < cnt from hlt1)
          generalize hL' : (fun z : Lit => left z && !z.sameKey (.int .i32 (j : Int))) = left' at HU4 HRG4 HSUB4
          have HLE := Lib.hid hL'
          have HOLD := Lib.hid (HRG.out.left_eq)
          have hjz : IntKind.i64.wrap (j : Int) = (j : Int) := by rw [IntKind.wrap_i64]; omega
          clear hq hd hU4 hbox4 hrg1 hlt1 hg1 hs1 hlx hat hwx hwc HU HBX HRG HSUB hL'
          go_wp2_with fail
          go_loopw [8] (fun tv w5 => ∃ t : Nat, q ≤ t ∧ t ≤ q + d + 1 ∧ tv = .int .i32 t ∧ Hid (w5.ranges Tryd.prog tI32 (plainElem Tryd.prog tI32) m1 r N D1 left' cnt1) ∧ Hid (UB T (cfT T left' q d j t) N g w w5) ∧ Hid (w5.heap[bu]? = some (.cells #[.slice A1 N c1, .map (some m1), .map (some m2), .map (some m3), .slice A2 N c2] tUnk (0, 0)))) (fun tv _ => q + d + 1 - (intOf tv).toNat)
          case atStart => exact ⟨q, Nat.le_refl _, by omega, rfl, HRG4, HU4, HBX4⟩
          case round =>
            clear HRG4 HU4 HBX4
            obtain ⟨t, ht1, ht2, rfl, HRG, HU, HBX⟩ := hrel
            have HM2 := Lib.hid (H2.out.below HU.out.hb)
            have b2 : wr.cell? ⟨bu, 2, none⟩ = some (.map (some m2)) := by rw [cell_of_heap HBX.out]; rfl
            have hwq : IntKind.i32.wrap ((q : Int) + (d : Int)) = (q : Int) + (d : Int) := by
              unfold IntKind.wrap
              simp [IntKind.signed, IntKind.bits, IntKind.min]
              omega
            by_cases hle : t ≤ q + d
            · have hlez : (t : Int) ≤ (q : Int) + (d : Int) := by omega
              have htT : t < T.length := by rw [HN.out]; omega
              have htz : (t : Int) < (N : Int) := by omega
              rw [← HN.out] at HU
              obtain ⟨⟨v0, z0⟩, zf⟩ := HU.out.cell0 htT
              have hwt : IntKind.i32.wrap ((t : Int) + 1) = (t : Int) + 1 := by
                unfold IntKind.wrap
                simp [IntKind.signed, IntKind.bits, IntKind.min]
                omega
              have HU' := Lib.hid ((HU.out.cls htT (j : Int)).ext (fun i _ => cfT_step ht1 hle i))
              have HGB := Lib.hid (show ∃ cs tt f, wr.heap[g]? = some (.cells cs tt f) from by obtain ⟨raws, _, hb, _⟩ := HU.out.buf; exact ⟨_, _, _, hb⟩)
              rw [HN.out] at HU'
              go_wp2_with (first
                | (at_lookup; refine wpList_look0 rfl _ _ rfl HM2.out hj3 HD.out rfl rfl ?_)
                | fail)
              go_roundw
              case rel =>
                obtain ⟨cs, tt, f, hgb⟩ := HGB.out
                exact ⟨t + 1, by omega, by omega, by go_num, Lib.hid (HRG.out.kept (grown_set _ g (t * 5) _) (fun e => (rng_ne HRG.out hgb).2 (Option.some.inj e)) (fun e => (rng_ne HRG.out hgb).1 (Option.some.inj e))), HU', Lib.hid (by rw [heap_set_ne hbg]; exact HBX.out)⟩
              case measure => simp [intOf]; omega
            · have hlez : ¬ (t : Int) ≤ (q : Int) + (d : Int) := by omega
              obtain rfl : t = q + d + 1 := by omega
              have HU' := Lib.hid (HU.out.ext (cf' := cfL T left') (fun i hi => by
                have := cfT_end (left := left) HG.out HQ.out HD.out i hi
                rw [HLE.out] at this
                exact this))
              go_wp2_with (first
                | (at_lookup; refine wpList_look0 rfl _ _ rfl HM2.out hj3 HD.out rfl rfl ?_)
                | fail)
              go_roundw
              case rel => exact ⟨left', cnt1, HRG, HU', HBX, HSUB4⟩
              case measure => rw [HRG.out.left_eq, HOLD.out]; exact HLT.out
end Go.Proofs.YteoljiclmhmbnaaDoor.Tx

/-
  Marks: a list of them in memory, and the map that impl.marks makes.
-/
set_option linter.unusedVariables false
set_option linter.unusedSimpArgs false
namespace Go.Proofs.YteoljiclmhmbnaaDoor.M
open Go.RowKit Go.Proofs.YteoljiclmhmbnaaDoor.K Go.Proofs.YteoljiclmhmbnaaDoorW.PrintWords Go.Maps

abbrev Mk := ByteArray × Int
def kMk : Kd Mk := Kd.pair Kd.string (Kd.int .i64)
theorem marks_at {w : World} {A : Option Addr} {n : Nat} {xs : List Mk} (h : kMk.C w A n xs) : ∀ j (hj : j < xs.length), ∃ ad, A = some ad ∧
    w.cell? (ad.add (j * 2)) = some (.string xs[j].1) ∧ w.cell? ⟨(ad.add (j * 2)).block, (ad.add (j * 2)).off + 1, none⟩ = some (.int .i64 xs[j].2) := by
  intro j hj
  obtain ⟨ad, hA, hc⟩ := h.2.2 (by have := h.1; omega)
  obtain ⟨c, hl, hk, hcell⟩ := hc j xs[j] (List.getElem?_eq_getElem hj)
  obtain ⟨_, _, rfl, rfl, rfl⟩ := hk
  have e : kMk.sz = 2 := rfl
  rw [e] at hcell
  have h0 := hcell 0 _ rfl
  have h1 := hcell 1 _ rfl
  rw [Nat.add_zero] at h0
  rw [add_field _ _ _ (by decide)] at h1
  exact ⟨ad, hA, h0, h1⟩
theorem law : Keyed Tryd.prog 9 := string_keyed Tryd.underlying9
theorem zeroE (w : World) : (zeroValue 176).run Tryd.prog w = .ok (.int .i8 0) w := by kernel_rfl
def mkKey (s : ByteArray) : Lit := .string s.data.toList
def mkVal (v : Int) : DataW Unit := .lit (.int .i8 (IntKind.i8.wrap v))
/-- The map of a list of marks. -/
def mapL (l : List Mk) : DataW Unit := l.foldl (fun D m => D.put (mkKey m.1) (mkVal m.2)) (.map [])
theorem mapL_snoc (l : List Mk) (m : Mk) : mapL (l ++ [m]) = (mapL l).put (mkKey m.1) (mkVal m.2) := by simp [mapL, List.foldl_append]
theorem wf_i8 (v : Int) : (Lit.int .i8 (IntKind.i8.wrap v)).wf = true := by
  simp only [Lit.wf, IntKind.min, IntKind.max, IntKind.signed, IntKind.bits, IntKind.wrap, Bool.and_eq_true, decide_eq_true_eq]
  simp
  omega

end Go.Proofs.YteoljiclmhmbnaaDoor.M

/-
  DERIVED: THE SHELF's CONTRACTS AT THIS DUMP, IN PLAIN WORDS (tools/lay-plain.mjs out of 'TrydLaySoft.lean', which tools/lay-shelf.mjs wrote): THE SAME DECLARATIONS UNDER THE SAME NAMES: 'import', 'namespace', 'open', 'def', 'theorem' AND NOTHING ELSE: no command of the shelf's: FOR A HAND-IN. Each laying: the table of numbers ('.._ren') and one theorem, a field a fact of the dump's own or the kernel's comparison; each contract: ONE APPLICATION.
-/
namespace Go.Proofs
open Go.Shelf
def Tryd.keys76_ren : Go.Shelf.Ren := ⟨fun | 7 => 76 | 10 => 100 | n => n, fun | 23 => 119 | 26 => 9 | 3 => 176 | 28 => 174 | 0 => 0 | 27 => 173 | 33 => 73 | 4 => 4 | n => n, fun | n => n⟩
theorem Tryd.keys76 : Go.Proofs.SlLaysZ.n7 Tryd.prog Tryd.keys76_ren := {
  mixed := by kernel_rfl
  f7 := ⟨Tryd.f76.name, by decide, Tryd.func76.trans (congrArg some (by kernel_rfl))⟩
  f10 := ⟨Tryd.f100.name, by decide, Tryd.func100.trans (congrArg some (by kernel_rfl))⟩
  t0 := Tryd.underlying0
  a0 := Tryd.isAgg0
  z0 := Tryd.sizeOf0
  v0 := Tryd.zeroValue0
  t4 := Tryd.underlying4
  a4 := Tryd.isAgg4
  z4 := Tryd.sizeOf4
  v4 := Tryd.zeroValue4
  t23 := Tryd.underlying119
  a23 := Tryd.isAgg119
  z23 := Tryd.sizeOf119
  v23 := Tryd.zeroValue119
  t26 := Tryd.underlying9
  a26 := Tryd.isAgg9
  z26 := Tryd.sizeOf9
  v26 := Tryd.zeroValue9
  t27 := Tryd.underlying173
  a27 := Tryd.isAgg173
  z27 := Tryd.sizeOf173
  v27 := Tryd.zeroValue173
  t28 := Tryd.underlying174
  a28 := Tryd.isAgg174
  z28 := Tryd.sizeOf174
  v28 := Tryd.zeroValue174
  t33 := Tryd.underlying73
  a33 := Tryd.isAgg73
  z33 := Tryd.sizeOf73
  v33 := Tryd.zeroValue73 }
def Tryd.sorted75_ren : Go.Shelf.Ren := ⟨fun | 6 => 75 | 8 => 98 | 9 => 99 | 11 => 124 | 13 => 126 | 12 => 125 | 23 => 153 | 24 => 154 | 14 => 145 | 15 => 146 | 16 => 147 | 17 => 148 | 18 => 149 | 19 => 150 | 20 => 108 | 21 => 151 | 22 => 152 | 25 => 165 | 26 => 166 | 27 => 167 | 28 => 168 | 29 => 169 | 30 => 133 | 31 => 172 | n => n, fun | 26 => 9 | 28 => 174 | 24 => 29 | 0 => 0 | 3 => 3 | 37 => 230 | 48 => 208 | 50 => 246 | 4 => 4 | 40 => 256 | 39 => 255 | 45 => 189 | 5 => 5 | 9 => 9 | 51 => 271 | 55 => 275 | 57 => 278 | 58 => 279 | 33 => 73 | n => n, fun | n => n⟩
theorem Tryd.sorted75 : Go.Proofs.SlLaysZ.n6 Tryd.prog Tryd.sorted75_ren := {
  mixed := by kernel_rfl
  f6 := ⟨Tryd.f75.name, by decide, Tryd.func75.trans (congrArg some (by kernel_rfl))⟩
  f8 := ⟨Tryd.f98.name, by decide, Tryd.func98.trans (congrArg some (by kernel_rfl))⟩
  f11 := ⟨Tryd.f124.name, by decide, Tryd.func124.trans (congrArg some (by kernel_rfl))⟩
  t0 := Tryd.underlying0
  a0 := Tryd.isAgg0
  z0 := Tryd.sizeOf0
  v0 := Tryd.zeroValue0
  t24 := Tryd.underlying29
  a24 := Tryd.isAgg29
  z24 := Tryd.sizeOf29
  v24 := Tryd.zeroValue29
  t26 := Tryd.underlying9
  a26 := Tryd.isAgg9
  z26 := Tryd.sizeOf9
  v26 := Tryd.zeroValue9
  t28 := Tryd.underlying174
  a28 := Tryd.isAgg174
  z28 := Tryd.sizeOf174
  v28 := Tryd.zeroValue174
  i26 := by kernel_rfl }
def Tryd.sort99_ren : Go.Shelf.Ren := ⟨fun | 6 => 99 | 8 => 126 | 9 => 125 | 19 => 153 | 20 => 154 | 21 => 145 | 22 => 146 | 23 => 147 | 24 => 148 | 25 => 149 | 26 => 150 | 27 => 108 | 28 => 151 | 29 => 152 | 36 => 165 | 31 => 166 | 32 => 167 | 37 => 168 | 38 => 169 | 39 => 133 | 41 => 172 | n => n, fun | 27 => 29 | 29 => 9 | 3 => 3 | 32 => 230 | 26 => 29 | 0 => 0 | 44 => 208 | 46 => 246 | 4 => 4 | 36 => 256 | 35 => 255 | 41 => 189 | 5 => 5 | 9 => 9 | 53 => 271 | 57 => 275 | 63 => 278 | 64 => 279 | n => n, fun | n => n⟩
theorem Tryd.sort99 : Go.Proofs.SlLaysM.n6 Tryd.prog Tryd.sort99_ren := {
  mixed := by kernel_rfl
  f6 := ⟨Tryd.f99.name, by decide, Tryd.func99.trans (congrArg some (by kernel_rfl))⟩
  f8 := Tryd.func126.trans (congrArg some (by kernel_rfl))
  f9 := ⟨Tryd.f125.name, by decide, Tryd.func125.trans (congrArg some (by kernel_rfl))⟩
  f19 := Tryd.func153.trans (congrArg some (by kernel_rfl))
  f20 := Tryd.func154.trans (congrArg some (by kernel_rfl))
  f21 := ⟨Tryd.f145.name, by decide, Tryd.func145.trans (congrArg some (by kernel_rfl))⟩
  f22 := ⟨Tryd.f146.name, by decide, Tryd.func146.trans (congrArg some (by kernel_rfl))⟩
  f23 := ⟨Tryd.f147.name, by decide, Tryd.func147.trans (congrArg some (by kernel_rfl))⟩
  f24 := ⟨Tryd.f148.name, by decide, Tryd.func148.trans (congrArg some (by kernel_rfl))⟩
  f25 := ⟨Tryd.f149.name, by decide, Tryd.func149.trans (congrArg some (by kernel_rfl))⟩
  f26 := ⟨Tryd.f150.name, by decide, Tryd.func150.trans (congrArg some (by kernel_rfl))⟩
  f27 := ⟨Tryd.f108.name, by decide, Tryd.func108.trans (congrArg some (by kernel_rfl))⟩
  f28 := ⟨Tryd.f151.name, by decide, Tryd.func151.trans (congrArg some (by kernel_rfl))⟩
  f29 := ⟨Tryd.f152.name, by decide, Tryd.func152.trans (congrArg some (by kernel_rfl))⟩
  f31 := Tryd.func166.trans (congrArg some (by kernel_rfl))
  f32 := Tryd.func167.trans (congrArg some (by kernel_rfl))
  f36 := ⟨Tryd.f165.name, by decide, Tryd.func165.trans (congrArg some (by kernel_rfl))⟩
  f37 := ⟨Tryd.f168.name, by decide, Tryd.func168.trans (congrArg some (by kernel_rfl))⟩
  f38 := ⟨Tryd.f169.name, by decide, Tryd.func169.trans (congrArg some (by kernel_rfl))⟩
  f39 := ⟨Tryd.f133.name, by decide, Tryd.func133.trans (congrArg some (by kernel_rfl))⟩
  f41 := ⟨Tryd.f172.name, by decide, Tryd.func172.trans (congrArg some (by kernel_rfl))⟩
  t0 := Tryd.underlying0
  a0 := Tryd.isAgg0
  z0 := Tryd.sizeOf0
  v0 := Tryd.zeroValue0
  t3 := Tryd.underlying3
  a3 := Tryd.isAgg3
  z3 := Tryd.sizeOf3
  v3 := Tryd.zeroValue3
  t4 := Tryd.underlying4
  a4 := Tryd.isAgg4
  z4 := Tryd.sizeOf4
  v4 := Tryd.zeroValue4
  t5 := Tryd.underlying5
  a5 := Tryd.isAgg5
  z5 := Tryd.sizeOf5
  v5 := Tryd.zeroValue5
  t9 := Tryd.underlying9
  a9 := Tryd.isAgg9
  z9 := Tryd.sizeOf9
  v9 := Tryd.zeroValue9
  t26 := Tryd.underlying29
  a26 := Tryd.isAgg29
  z26 := Tryd.sizeOf29
  v26 := Tryd.zeroValue29
  t27 := Tryd.underlying29
  a27 := Tryd.isAgg29
  z27 := Tryd.sizeOf29
  v27 := Tryd.zeroValue29
  t29 := Tryd.underlying9
  a29 := Tryd.isAgg9
  z29 := Tryd.sizeOf9
  v29 := Tryd.zeroValue9
  t32 := Tryd.underlying230
  a32 := Tryd.isAgg230
  z32 := Tryd.sizeOf230
  v32 := Tryd.zeroValue230
  t35 := Tryd.underlying255
  a35 := Tryd.isAgg255
  z35 := Tryd.sizeOf255
  v35 := Tryd.zeroValue255
  t36 := Tryd.underlying256
  a36 := Tryd.isAgg256
  z36 := Tryd.sizeOf256
  v36 := Tryd.zeroValue256
  t41 := Tryd.underlying189
  a41 := Tryd.isAgg189
  z41 := Tryd.sizeOf189
  v41 := Tryd.zeroValue189
  t44 := Tryd.underlying208
  a44 := Tryd.isAgg208
  z44 := Tryd.sizeOf208
  v44 := Tryd.zeroValue208
  t46 := Tryd.underlying246
  a46 := Tryd.isAgg246
  z46 := Tryd.sizeOf246
  v46 := Tryd.zeroValue246
  t53 := Tryd.underlying271
  a53 := Tryd.isAgg271
  z53 := Tryd.sizeOf271
  v53 := Tryd.zeroValue271
  t57 := Tryd.underlying275
  a57 := Tryd.isAgg275
  z57 := Tryd.sizeOf275
  v57 := Tryd.zeroValue275
  t63 := Tryd.underlying278
  a63 := Tryd.isAgg278
  z63 := Tryd.sizeOf278
  v63 := Tryd.zeroValue278
  t64 := Tryd.underlying279
  a64 := Tryd.isAgg279
  z64 := Tryd.sizeOf279
  v64 := Tryd.zeroValue279 }
end Go.Proofs

/-
  slices.Sorted(maps.Keys(m)) at this dump (printed by lay-iter.mjs; the layings in plain words).
-/
namespace Go.Proofs
open Go.RowKit Go.Maps Go.Sort Go.Shelf

-- maps.Keys[pub-kaeriten/pub/kagomedict/dict.ContentsMeta,string,int8] (function 76; its iterator 100) · slices.Sorted[string] (75) · slices.Sort[[]string,string] (99) · the map's type 119, the keys' 9

/-- slices.Sort's two contracts at this dump, at the fence that asks nothing. -/
theorem Tryd.sorts75 (m : Nat) : AnyZ.SortsIn Tryd.prog Tryd.sorted75_ren Fence.wide m :=
  ⟨fun blk off cap ss W hH hblk hsz => callsIn_wide.2 (AnyM.slices_Sort_string Tryd.sort99 blk off cap ss W hH hblk hsz),
   fun p cap W => callsIn_wide.2 (AnyM.slices_Sort_string_none Tryd.sort99 p cap W)⟩

/-- **maps.Keys[pub-kaeriten/pub/kagomedict/dict.ContentsMeta,string,int8], at whatever map, the nil one too:** a function value over ONE NEW BLOCK, which holds the map. -/
theorem Tryd.maps_Keys_76 (mb : Option Nat) (W : World) : CallsIn Fence.wide 5 Tryd.prog 76 #[.map mb] W fun e w' => e = .returned (.func (.func 100) #[] #[.pointer (some ⟨W.heap.size, 0, none⟩)]) ∧ w' = W.alloc (.cells #[.map mb] 119) :=
  AnyZ.keys_in Tryd.keys76 Fence.wide 5 trivial rfl mb W

set_option maxHeartbeats 1000000 in
/-- **slices.Sorted[string] AT WHAT maps.Keys[pub-kaeriten/pub/kagomedict/dict.ContentsMeta,string,int8] HANDED BACK FOR A MAP THAT IS NOT nil** ('w': the world AHEAD of maps.Keys' call): A NEW SLICE THAT HOLDS THE MAP's KEYS, SORTED; nil just where it has none; nothing that lay before has turned. -/
theorem Tryd.slices_Sorted_keys_75_76 {H : Type} (b nn : Nat) (D0 : DataW H) (R : Value → Option (DataW H × List MemPlace)) (w : World) (hown : w.ownsMap Tryd.prog 9 R b nn D0) (hmax : Maps.size D0 ≤ maxLen) (hbytes : Maps.size D0 * 16 ≤ 140737488355328) :
    CallsIn Fence.wide 5 Tryd.prog 75 #[.func (.func 100) #[] #[.pointer (some ⟨w.heap.size, 0, none⟩)]] (w.alloc (.cells #[.map (some b)] 119)) fun e w' => ∃ (v : Value) (ss : List (List UInt8)), e = .returned v ∧ ss.Perm (strKeys D0) ∧
      w'.ownsRow (w.alloc (.cells #[.map (some b)] 119)).heap.size 9 1 v ss.length ((ss.mergeSort (fun x y => decide (x ≤ y))).map encStr) ∧ (v = .slice none 0 0 ↔ ss = []) ∧ Below (w.alloc (.cells #[.map (some b)] 119)).heap.size (w.alloc (.cells #[.map (some b)] 119)) w' := by
  have hbl := hown.lt
  have hseq : SeqGives Fence.wide 2 Tryd.prog 100 #[.pointer (some ⟨w.heap.size, 0, none⟩)] encStr (fun ss => ss.Perm (strKeys D0)) (Maps.size D0) (w.alloc (.cells #[.map (some b)] 119)) :=
    AnyZ.keys_gives (ρ := Tryd.keys76_ren) { Tryd.keys76 with } Fence.wide _ trivial rfl (by omega) w.heap.size b nn D0 _ (by simp) (by simp) (by
      obtain ⟨es, clock, hb, Ft, hs, hD⟩ := hown
      exact ⟨es, clock, (Below.heap_alloc _ _ b hbl).trans hb, Ft, hs, hD⟩)
  exact AnyZ.sorted_in Tryd.sorted75 Fence.wide 5 trivial trivial trivial trivial rfl (by omega) (Tryd.sorts75 _) (enters_of Tryd.func99 (by kernel_rfl) rfl) 100 #[.pointer (some ⟨w.heap.size, 0, none⟩)] trivial (enters_of Tryd.func100 (by kernel_rfl) rfl) _ _ hmax hbytes _ hseq

set_option maxHeartbeats 1000000 in
/-- **.. AND FOR THE nil MAP: nil.** -/
theorem Tryd.slices_Sorted_keys_nil_75_76 (w : World) :
    CallsIn Fence.wide 5 Tryd.prog 75 #[.func (.func 100) #[] #[.pointer (some ⟨w.heap.size, 0, none⟩)]] (w.alloc (.cells #[.map none] 119)) fun e w' => ∃ (v : Value) (ss : List (List UInt8)), e = .returned v ∧ ss = [] ∧
      w'.ownsRow (w.alloc (.cells #[.map none] 119)).heap.size 9 1 v ss.length ((ss.mergeSort (fun x y => decide (x ≤ y))).map encStr) ∧ (v = .slice none 0 0 ↔ ss = []) ∧ Below (w.alloc (.cells #[.map none] 119)).heap.size (w.alloc (.cells #[.map none] 119)) w' := by
  have hseq : SeqGives Fence.wide 2 Tryd.prog 100 #[.pointer (some ⟨w.heap.size, 0, none⟩)] encStr (fun ss : List (List UInt8) => ss = []) 0 (w.alloc (.cells #[.map none] 119)) :=
    AnyZ.keys_gives_nil (ρ := Tryd.keys76_ren) { Tryd.keys76 with } Fence.wide _ trivial rfl w.heap.size _ (by simp) (by simp)
  exact AnyZ.sorted_in Tryd.sorted75 Fence.wide 5 trivial trivial trivial trivial rfl (by omega) (Tryd.sorts75 _) (enters_of Tryd.func99 (by kernel_rfl) rfl) 100 #[.pointer (some ⟨w.heap.size, 0, none⟩)] trivial (enters_of Tryd.func100 (by kernel_rfl) rfl) _ 0 (Nat.zero_le _) (by omega) _ hseq

-- THE CALLER's WALK over 'slices.Sorted(maps.Keys(m))' (inside '(callsIn_wide (n := 6)).1'; 'have hfK : Fence.wide.fn 76 := trivial', 'have hfS : Fence.wide.fn 75 := trivial' ahead): THE TWO ARMS TO PASTE:
--   gi_wp2_with (first
--     | (gi_at_call 76; refine (Tryd.maps_Keys_76 _ _).mono ?_; rintro e w' ⟨rfl, rfl⟩)
--     | (gi_at_call 75; refine (Tryd.slices_Sorted_keys_75_76 b nn D0 R w hown hmax hbytes).mono ?_; rintro e w' ⟨v, ss, rfl, hS, hrow, hnil, hb⟩))


end Go.Proofs

/-
  The walk of impl.marksBack.
-/
set_option linter.unusedVariables false
set_option linter.unusedSimpArgs false
namespace Go.Proofs.YteoljiclmhmbnaaDoor.M
open Go.RowKit Go.Proofs.YteoljiclmhmbnaaDoor.K Go.Proofs.YteoljiclmhmbnaaDoorW.PrintWords Go.Maps Go.Sort

def mkS (x : List UInt8) : ByteArray := ⟨x.toArray⟩
/-- What a map of marks has at a name. -/
def valAt (D : DataW Unit) (x : List UInt8) : Int := match D.atKey (.string x) (.lit (.int .i8 0)) with | .lit (.int _ c) => c | _ => 0
/-- The marks of a map, ascending by name. -/
def backL (D : DataW Unit) : List Mk := ((strKeys D).mergeSort leB).map fun x => (mkS x, valAt D x)
theorem own_strs {w : World} {base n : Nat} {v : Value} {xs : List (List UInt8)} (h : w.ownsRow base 9 1 v n (xs.map encStr)) (hn : n = xs.length) : ∃ A c, v = .slice A (xs.map mkS).length c ∧ Kd.string.C w A (xs.map mkS).length (xs.map mkS) := by
  subst hn
  have h' : w.ownsRow base 9 1 v (xs.map mkS).length ((xs.map mkS).map Value.string) := by
    rw [List.map_map, List.length_map]
    exact h
  obtain ⟨A, c, he, hc, hr⟩ := own_reads_of_le (enc := Value.string) (d := ByteArray.empty) h'
  exact ⟨A, c, he, Kd.C_of_reads (enc := Value.string) (d := ByteArray.empty) (h1 := fun _ => rfl) hr⟩

theorem map_below {k : TypeId} {R : Value → Option (DataW Unit × List MemPlace)} {w w1 : World} {b n : Nat} {D : DataW Unit} (h : w.ownsMap Tryd.prog k R b n D) (hb : Below w.heap.size w w1) : w1.ownsMap Tryd.prog k R b n D := by
  obtain ⟨es, clock, h1, r⟩ := h
  exact ⟨es, clock, (hb.block b (lt_of_heap h1)).trans h1, r⟩
theorem mark_M (W : World) (base : Nat) (okp : Nat → Prop) (s : ByteArray) (v : Int) : kMk.M W base okp (s, v) [.string s, .int .i64 v] := ⟨[.string s], [.int .i64 v], rfl, rfl, rfl⟩
theorem wrap_i8_64 {c : Int} (h : (Lit.int .i8 c).wf = true) : wrap64 c = c := by
  simp only [Lit.wf, IntKind.min, IntKind.max, IntKind.signed, IntKind.bits, Bool.and_eq_true, decide_eq_true_eq] at h
  simp at h
  unfold wrap64
  omega
set_option maxHeartbeats 1000000 in
set_option maxRecDepth 5000 in
theorem marksBack_any (b nn : Nat) (D : DataW Unit) (w : World) (hown : w.ownsMap Tryd.prog 9 (plainElem Tryd.prog 176) b nn D) (hsz : Maps.size D ≤ 2147483647) (hk : ∀ x ∈ strKeys D, x.length ≤ maxLen) :
    Calls Tryd.prog 57 #[.map (some b)] w (RetRow kMk 178 (backL D) w) := by
  have hK := fun W => (callsIn_wide (n := 5)).1 (Tryd.maps_Keys_76 (some b) W)
  have hS := (callsIn_wide (n := 5)).1 (Tryd.slices_Sorted_keys_75_76 b nn D _ w hown (by unfold maxLen; omega) (by omega))
  have HK := Lib.hid hK
  have HS := Lib.hid hS
  have HOWN := Lib.hid hown
  have HKL := Lib.hid hk
  clear hK hS hown hk
  go_enter Tryd.func57, Tryd.ntmps57
  go_wp2_with fail
  refine (HK.out w).mono ?_
  rintro e w1 ⟨rfl, rfl⟩
  go_wp2_with fail
  refine HS.out.mono ?_
  rintro e w2 ⟨v, ss, rfl, hp, hrow, -, hb⟩
  have hml := mergeSort_of_perm hp
  obtain ⟨KL, hKL⟩ : ∃ KL, (strKeys D).mergeSort leB = KL := ⟨_, rfl⟩
  have hrow2 : w2.ownsRow (w.alloc (.cells #[.map (some b)] 119)).heap.size 9 1 v ss.length (KL.map encStr) := by rw [← hKL, ← hml]; exact hrow
  have hlen : ss.length = KL.length := by rw [← hKL, ← hml, List.length_mergeSort]
  obtain ⟨A, c, rfl, hC⟩ := own_strs hrow2 hlen
  have hback : backL D = KL.map fun x => (mkS x, valAt D x) := by unfold backL; rw [hKL]
  have hal := below_alloc (Below.refl w.heap.size w) (.cells #[.map (some b)] 119)
  have hL2 := hal.trans (hb.mono hal.size)
  have hwz := hL2.size
  have HL2 := Lib.hid hL2
  have HM := Lib.hid (map_below HOWN.out hL2)
  have HC := Lib.hid hC
  have HKB := Lib.hid (show ∀ x ∈ KL, x.length ≤ maxLen from fun x hx => HKL.out x (by rw [← hKL] at hx; exact List.mem_mergeSort.1 hx))
  have hN : KL.length ≤ 2147483647 := by
    have h1 := hp.length_eq
    have h2 : (strKeys D).length ≤ Maps.size D := by
      cases D <;> simp [strKeys, Maps.size]
    omega
  have HBACK := Lib.hid hback
  clear hrow hrow2 hp hml hb hal hL2 hC hKL HKL HK HS hback HOWN
  obtain ⟨N, hNN⟩ : ∃ N, KL.length = N := ⟨_, rfl⟩
  have hNm : (KL.map mkS).length = N := by rw [List.length_map, hNN]
  rw [hNm]
  rw [hNN] at hN
  go_wp2
  go_loopw [10, 3] (fun i v wr => ∃ k : Nat, k ≤ N ∧ i = .int .i64 k ∧ Hid (kMk.R 178 wr w2.heap.size (fun _ => True) v ((KL.map fun x => (mkS x, valAt D x)).take k)) ∧ Hid (Below w2.heap.size w2 wr)) (fun i _ _ => N - (intOf i).toNat)
  case atStart => exact ⟨0, Nat.zero_le _, rfl, Lib.hid (Kd.R_nil _ _ _ _ _), Lib.hid (Below.refl _ _)⟩
  case round =>
    obtain ⟨k, hk, rfl, hR, hbel⟩ := hrel
    have hzr := hbel.out.size
    by_cases hlt : k < N
    · have hkm : k < (KL.map mkS).length := by rw [hNm]; exact hlt
      have hkK : k < KL.length := by rw [hNN]; exact hlt
      obtain ⟨ad, rfl, h0⟩ := strs_at (Kd.C_below HC.out hbel.out) k hkm
      have hx : (KL.map mkS)[k] = mkS KL[k] := by simp
      have HT := Lib.hid (show (KL.map fun x => (mkS x, valAt D x)).take (k + 1) = (KL.map fun x => (mkS x, valAt D x)).take k ++ [(mkS KL[k], valAt D KL[k])] by
        rw [List.take_succ_eq_append_getElem (by rw [List.length_map]; exact hkK)]; simp)
      have hsz := HKB.out KL[k] (List.getElem_mem _)
      have htl : ((KL.map fun x => (mkS x, valAt D x)).take k).length = k := by rw [List.length_take, List.length_map]; omega
      rw [hx] at h0
      generalize KL[k] = x at h0 HT hsz
      obtain ⟨s, hs⟩ : ∃ s, mkS x = s := ⟨_, rfl⟩
      have hkey : keyOf Tryd.prog 9 (.string s) = some (.string x) := by
        rw [← hs]
        have := WideMaps.keyOf_string_mk (P := Tryd.prog) (k := 9) Tryd.underlying9 (s := mkS x) (by simpa [mkS, ByteArray.size] using hsz)
        simpa [mkS] using this
      rw [hs] at h0 HT
      have HTL := Lib.hid htl
      have HMr := Lib.hid (map_below HM.out hbel.out)
      clear hs hx hkm hkK htl
      go_wp2_with (first
        | (at_lookup; refine wpList_lookup_own_int _ rfl _ _ 119 rfl 9 176 .i8 law Tryd.underlying119 Tryd.underlying176 (zeroE _) b nn D rfl HMr.out _ _ rfl hkey ?_; intro c8 hat hwc; have hw8 := wrap_i8_64 hwc; have HAT := Lib.hid hat; clear hat hwc)
        | (at_builtin; refine kapp (w0 := w2) kMk w2.heap.size rfl _ _ 62 178 (.agg #[.string ⟨#[]⟩, .int .i64 0]) 24 rfl Tryd.underlying62 (by kernel_rfl) rfl (by decide) (by decide) _ ((KL.map fun x => (mkS x, valAt D x)).take k) (s, c8) [.string s, .int .i64 c8] (fun _ => True) (fun _ => False) _ rfl rfl (by intro q u hq; rw [cell_of_heap (heap_new _ _)]; simpa using hq) (mark_M _ _ _ _ _) (fun _ h => h.elim) (fun _ _ => trivial) (Kd.R_alloc hR.out _) (hbel.out.alloc hzr _) (by simp; omega) (by rw [HTL.out]; omega) ?_; intro v4 w4 hR4 hB4 hg4 hat4; have HR4 := Lib.hid hR4; have HB4 := Lib.hid hB4; clear hg4 hat4 hR4 hB4)
        | go_in)
      have HR5 := Lib.hid (show kMk.R 178 w4 w2.heap.size (fun _ => True) v4 ((KL.map fun x => (mkS x, valAt D x)).take (k + 1)) by
        have hv : valAt D x = c8 := by unfold valAt; rw [HAT.out]
        rw [HT.out, hv]
        exact HR4.out)
      exact ⟨⟨k + 1, by omega, by go_num, HR5, HB4⟩, by simp [intOf]; omega⟩
    · obtain rfl : k = N := by omega
      have h := hR.out
      rw [List.take_of_length_le (by rw [List.length_map]; omega)] at h
      have HBB := Lib.hid (HL2.out.trans (hbel.out.mono hwz))
      have HR := Lib.hid h
      clear h hR
      go_wp2
      go_ret
      refine ⟨_, rfl, ?_, HBB.out⟩
      rw [HBACK.out]
      exact Kd.R_lower HR.out hwz
end Go.Proofs.YteoljiclmhmbnaaDoor.M

/-
  The walks of impl.unkInfo, builder.ZzUnk; builder.parseUnkDef at records that are refused.
-/
set_option linter.unusedVariables false
set_option linter.unusedSimpArgs false
namespace Go.Proofs.YteoljiclmhmbnaaDoor.Tx
open Go Go.RowKit Go.Proofs.YteoljiclmhmbnaaDoor.K Go.Proofs.YteoljiclmhmbnaaDoorW.PrintWords Go.Proofs.YteoljiclmhmbnaaDoor.Mi Go.Maps

theorem unkInfo_any (w : World) : Calls Tryd.prog 55 #[.agg infoCells] w fun e w' => ∃ p, e = .returned (ptr p 0) ∧ w'.heap[p]? = some (.cells infoCells tInfo (0, 0)) ∧ w.heap.size ≤ p ∧ Below w.heap.size w w' := by
  unfold infoCells
  go_enter Tryd.func55, Tryd.ntmps55
  go_wp2
  go_ret
  refine ⟨_, rfl, ?_, by simp, ((Below.refl _ w).alloc (Nat.le_refl _) _).alloc (by simp) _⟩
  have h := heap_new (w.alloc (.cells #[.int .i64 6, .int .i64 0, .int .i64 1, .int .i64 2, .int .i64 3, .int .i64 4, .int .i64 5] 66)) (.cells #[.int .i64 6, .int .i64 0, .int .i64 1, .int .i64 2, .int .i64 3, .int .i64 4, .int .i64 5] tInfo)
  rw [size_alloc] at h
  exact h
set_option maxHeartbeats 1000000 in
set_option maxRecDepth 5000 in
theorem parseU_bad (A B : Option Addr) (c cc pi n : Nat) (fr : Nat × Nat) (xs : List (List ByteArray)) (w : World) (hC : kRow.C w A xs.length xs) (hI : w.heap[pi]? = some (.cells infoCells tInfo fr)) (hx : ∃ r ∈ xs, r.length ≠ 6) :
    Calls Tryd.prog 74 #[.slice A xs.length c, .pointer (some ⟨pi, 0, none⟩), .slice B n cc] w fun e w' => (∃ b : Nat, e = .returned (.tuple #[.pointer none, .iface 183 (.pointer (some ⟨b, 0, none⟩))])) ∧ Below w.heap.size w w' := by
  have HC := Lib.hid hC
  have HX := Lib.hid hx
  have hi0 : w.cell? ⟨pi, 0, none⟩ = some (.int .i64 6) := by rw [cell_of_heap hI]; rfl
  clear hC hI hx
  go_enter Tryd.func74, Tryd.ntmps74
  go_wp2_with fail
  refine (check_any A c xs 6 (by decide) w HC.out).mono ?_
  rintro e w1 ⟨⟨hall, rfl⟩ | ⟨_, b, rfl⟩, hb1⟩
  · obtain ⟨r, hr, hne⟩ := HX.out
    exact absurd (hall r hr) hne
  have HB := Lib.hid hb1
  clear hb1
  go_wp2
  go_ret2
  exact ⟨⟨b, rfl⟩, HB.out⟩
theorem zzUnk_of {R : Ending → World → Prop} (v1 v2 v3 : Value) (w : World) (p q : Value) (h : Calls Tryd.prog 74 #[v1, v2, v3] w R) (hR : ∀ e w', R e w' → ∃ x y, e = .returned (.tuple #[x, y])) :
    Calls Tryd.prog 53 #[v1, v2, v3] w R := by
  have H := Lib.hid h
  have HR := Lib.hid hR
  clear h hR
  go_enter Tryd.func53, Tryd.ntmps53
  go_wp2_with fail
  refine H.out.mono ?_
  intro e w' hr
  obtain ⟨x, y, rfl⟩ := HR.out e w' hr
  have HRR := Lib.hid hr
  clear hr
  go_wp2_with fail
  exact HRR.out
theorem recoverU (p q r : Addr) (w : World) :
    CallsD Tryd.prog 52 #[.pointer (some p), .pointer (some q), .pointer (some r)] .returning w fun e u' w' => e = .returned (.tuple #[]) ∧ u' = .returning ∧ w' = w := by
  refine callsD_of_wpS Tryd.func52 rfl fun c₀ cs hu => ?_
  apply wpS_seq
  apply wpS_region
  simp [wpOpsS, go_sem, recoverD, hu, Tryd.ntmps52, Exit.thenS]
  refine wpS_cond (t := false) (by simp [Act.eval, Array.replicate]) ?_
  simp only [Bool.false_eq_true, if_false]
  refine wpS_of_wp (wp_skip ?_)
  cases c₀
  simp_all [bodyPostS, results, Tryd.results52]

theorem keep7 {w5 w' : World} {b : Nat} {x0 x1 x2 x3 x4 x5 x6 : Value} (q0 : w5.cell? ⟨b, 0, none⟩ = some x0) (q1 : w5.cell? ⟨b, 1, none⟩ = some x1) (q2 : w5.cell? ⟨b, 2, none⟩ = some x2) (q3 : w5.cell? ⟨b, 3, none⟩ = some x3) (q4 : w5.cell? ⟨b, 4, none⟩ = some x4) (q5 : w5.cell? ⟨b, 5, none⟩ = some x5) (q6 : w5.cell? ⟨b, 6, none⟩ = some x6) (h : Hid (Below w5.heap.size w5 w')) :
    w'.cell? ⟨b, 0, none⟩ = some x0 ∧ w'.cell? ⟨b, 1, none⟩ = some x1 ∧ w'.cell? ⟨b, 2, none⟩ = some x2 ∧ w'.cell? ⟨b, 3, none⟩ = some x3 ∧ w'.cell? ⟨b, 4, none⟩ = some x4 ∧ w'.cell? ⟨b, 5, none⟩ = some x5 ∧ w'.cell? ⟨b, 6, none⟩ = some x6 := by
  have e : ∀ {a : Addr} {v : Value}, w5.cell? a = some v → w'.cell? a = some v := fun hc => (h.out.cell (World.block_lt_of_cell? _ _ hc)).trans hc
  exact ⟨e q0, e q1, e q2, e q3, e q4, e q5, e q6⟩
abbrev S5p (p : Nat) (A1 : Option Addr) (N c1 m1 m2 m3 : Nat) (A2 : Option Addr) (c2 : Nat) (w' : World) : Prop :=
  w'.cell? ⟨p, 0, none⟩ = some (.slice A1 N c1) ∧ w'.cell? ⟨p, 1, none⟩ = some (.map (some m1)) ∧ w'.cell? ⟨p, 2, none⟩ = some (.map (some m2)) ∧ w'.cell? ⟨p, 3, none⟩ = some (.map (some m3)) ∧ w'.cell? ⟨p, 4, none⟩ = some (.slice A2 N c2)
theorem S5p.far {p : Nat} {A1 : Option Addr} {N c1 m1 m2 m3 : Nat} {A2 : Option Addr} {c2 : Nat} {w' : World} (h : S5p p A1 N c1 m1 m2 m3 A2 c2 w') {r : Nat} (hr : p ≠ r) (o : Nat) (v : Value) : S5p p A1 N c1 m1 m2 m3 A2 c2 (w'.setCell ⟨r, o, none⟩ v) := by
  obtain ⟨h0, h1, h2, h3, h4⟩ := h
  have e : ∀ j, (w'.setCell ⟨r, o, none⟩ v).cell? ⟨p, j, none⟩ = w'.cell? ⟨p, j, none⟩ := fun j => cell_far hr
  exact ⟨(e 0).trans h0, (e 1).trans h1, (e 2).trans h2, (e 3).trans h3, (e 4).trans h4⟩
/-- The three results in memory. -/
def Res3 (b : Nat) (x y z : Value) (w : World) : Prop := w.heap[b]? = some (.cells #[x] 55 (0, 0)) ∧ w.heap[b + 1]? = some (.cells #[y] 62 (0, 0)) ∧ w.heap[b + 2]? = some (.cells #[z] 3 (0, 0))
theorem Res3.keep {b : Nat} {x y z : Value} {w w' : World} (h : Res3 b x y z w) (hb : ∀ k, b ≤ k → k < b + 3 → w'.heap[k]? = w.heap[k]?) : Res3 b x y z w' :=
  ⟨(hb b (by omega) (by omega)).trans h.1, (hb (b + 1) (by omega) (by omega)).trans h.2.1, (hb (b + 2) (by omega) (by omega)).trans h.2.2⟩
theorem Res3.set {b : Nat} {x y z : Value} {w : World} (h : Res3 b x y z w) (u v s : Value) : Res3 b u v s (((w.setCell ⟨b, 0, none⟩ u).setCell ⟨b + 1, 0, none⟩ v).setCell ⟨b + 2, 0, none⟩ s) := by
  have n1 : b ≠ b + 1 := by omega
  have n2 : b ≠ b + 2 := by omega
  have n3 : b + 1 ≠ b + 2 := by omega
  refine ⟨?_, ?_, ?_⟩
  · rw [heap_set_ne n2, heap_set_ne n1, heap_set h.1]; rfl
  · rw [heap_set_ne n3, heap_set (by rw [heap_set_ne n1.symm]; exact h.2.1)]; rfl
  · rw [heap_set (by rw [heap_set_ne n3.symm, heap_set_ne n2.symm]; exact h.2.2)]; rfl
theorem Res3.c {b : Nat} {x y z : Value} {w : World} (h : Res3 b x y z w) : w.cell? ⟨b, 0, none⟩ = some x ∧ w.cell? ⟨b + 1, 0, none⟩ = some y ∧ w.cell? ⟨b + 2, 0, none⟩ = some z :=
  ⟨by rw [cell_of_heap h.1]; rfl, by rw [cell_of_heap h.2.1]; rfl, by rw [cell_of_heap h.2.2]; rfl⟩
theorem Res3.f {b : Nat} {x y z : Value} {w : World} (h : Res3 b x y z w) : w.frozen? ⟨b, 0, none⟩ = false ∧ w.frozen? ⟨b + 1, 0, none⟩ = false ∧ w.frozen? ⟨b + 2, 0, none⟩ = false :=
  ⟨frozen_of_heap h.1 0, frozen_of_heap h.2.1 0, frozen_of_heap h.2.2 0⟩
/-- What impl.Unknowns answers: the entries in the order of their classes' names, and two marks; or that it is refused. -/
def UnkRet (T : List Un) (w : World) (e : Ending) (w' : World) : Prop :=
  ∃ (A : Option Addr) (c : Nat) (B : Option Addr) (c' : Nat), e = .returned (.tuple #[.slice A T.length c, .slice B 2 c', .int .i64 0]) ∧ T.length ≤ c ∧ kUn.C w' A T.length T ∧ Below w.heap.size w w'
/-- A one-cell block that holds no text lies apart from a row of texts. -/
theorem strC_apart {w : World} {a : Addr} {n : Nat} {xs : List ByteArray} (h : Kd.string.C w (some a) n xs) (hp : 0 < xs.length) {r : Nat} {v : Value} {t : TypeId} {f : Nat × Nat} (hr : w.heap[r]? = some (.cells #[v] t f)) (hv : ∀ s, v ≠ .string s) : a.block ≠ r := by
  obtain ⟨ad, ha, hc⟩ := strs_at h 0 hp
  cases ha
  intro e
  have hz : (a.add 0).block = a.block := by unfold Addr.add; split <;> rfl
  unfold World.cell? at hc
  rw [hz, e, hr] at hc
  by_cases ho : (a.add 0).off = 0
  · simp [ho] at hc
    exact hv _ hc.2
  · simp [ho] at hc
/-- The entries stay when another block's one cell is set. -/
theorem kUn_set {w : World} {g n : Nat} {T : List Un} (h : kUn.C w (some ⟨g, 0, none⟩) n T) (hne : ∀ u ∈ T, 0 < u.2.2.2.2.length) {r : Nat} {v : Value} {t : TypeId} {f : Nat × Nat} (hr : w.heap[r]? = some (.cells #[v] t f)) (hv : ∀ s, v ≠ .string s) (hg : g ≠ r) (u : Value) : kUn.C (w.setCell ⟨r, 0, none⟩ u) (some ⟨g, 0, none⟩) n T := by
  obtain ⟨h1, h2, h3⟩ := h
  refine ⟨h1, h2, fun hp => ?_⟩
  obtain ⟨ad, e, hc⟩ := h3 hp
  cases e
  refine ⟨_, rfl, fun j x hj => ?_⟩
  obtain ⟨cs, hl, ⟨a1, b1, e1, k1, a2, b2, e2, k2, a3, b3, e3, k3, a4, b4, e4, k4, A, c, e5, l5, hC⟩, hcell⟩ := hc j x hj
  refine ⟨cs, hl, ⟨a1, b1, e1, k1, a2, b2, e2, k2, a3, b3, e3, k3, a4, b4, e4, k4, A, c, e5, l5, ?_⟩, fun i y hy => ?_⟩
  · have hpx := hne x (List.mem_of_getElem? hj)
    obtain ⟨a, ha, _⟩ := hC.2.2 hpx
    subst ha
    exact strC_hold hC (heap_set_ne (strC_apart hC hpx hr hv) _ _)
  · have hk := hcell i y hy
    rw [← hk]
    have hz : ∀ a : Addr, a.block = g → (w.setCell ⟨r, 0, none⟩ u).cell? a = w.cell? a := fun a ha => by
      have hz2 : (w.setCell ⟨r, 0, none⟩ u).heap[a.block]? = w.heap[a.block]? := heap_set_ne (by rw [ha]; exact hg) _ _
      unfold World.cell?
      rw [hz2]
    refine hz _ ?_
    unfold Addr.add
    split <;> (try split) <;> rfl
theorem D3_keys : (strKeys (D3 true true)).length = 2 ∧ (∀ x ∈ strKeys (D3 true true), x.length ≤ maxLen) ∧ Maps.size (D3 true true) ≤ 2147483647 := by
  have e : strKeys (D3 true true) = [kHier.data.toList, kStart.data.toList] := by kernel_rfl
  rw [e]
  refine ⟨rfl, fun x hx => ?_, by decide⟩
  rcases List.mem_cons.1 hx with rfl | hx
  · decide
  · rw [List.mem_singleton.1 hx]; decide
set_option maxHeartbeats 2000000 in
set_option maxRecDepth 5000 in
theorem unknowns_any (ns : List ByteArray) (hnd : ns.Nodup) (us : List Un) (hpos : 0 < us.length) (hlen : us.length ≤ 100000) (hns : ns.length ≤ 100000) (hok : ∀ u ∈ us, OkU ns u) (A B : Option Addr) (c cc : Nat) (w : World)
    (hC : kRow.C w A us.length (us.map (rowU ns))) (hB : Kd.string.C w B ns.length ns) :
    Calls Tryd.prog 31 #[.slice A us.length c, .agg infoCells, .slice B ns.length cc] w (UnkRet (sortK (nameU ns) us) w) := by
  have hmf : ∀ (fn : Fn) (first cap : Array Value) (w : World), (Instr.makeFunc fn first cap).run Tryd.prog w = .ok (.func fn first cap) w := fun _ _ _ _ => rfl
  obtain ⟨T, hT⟩ : ∃ T, T = sortK (nameU ns) us := ⟨_, rfl⟩
  rw [← hT]
  have HT := Lib.hid hT
  have HC := Lib.hid hC
  have HBB := Lib.hid hB
  have HOK := Lib.hid hok
  have HND := Lib.hid hnd
  obtain ⟨N, hN⟩ : ∃ N, us.length = N := ⟨_, rfl⟩
  have HN := Lib.hid hN
  rw [hN] at hpos hlen HC ⊢
  clear hT hC hB hok hnd hN
  obtain ⟨b, hb⟩ : ∃ b, b = w.heap.size := ⟨_, rfl⟩
  obtain ⟨w1, hw1⟩ : ∃ w1, w1 = (((w.alloc (.cells #[.int .i64 6, .int .i64 0, .int .i64 1, .int .i64 2, .int .i64 3, .int .i64 4, .int .i64 5] 66)).alloc (.cells #[.slice none 0 0] 55)).alloc (.cells #[.slice none 0 0] 62)).alloc (.cells #[.int .i64 0] 3) := ⟨_, rfl⟩
  have hall : (w1.heap[b]? = some (.cells #[.int .i64 6, .int .i64 0, .int .i64 1, .int .i64 2, .int .i64 3, .int .i64 4, .int .i64 5] 66 (0, 0))) ∧ Res3 (b + 1) (.slice none 0 0) (.slice none 0 0) (.int .i64 0) w1 := by
    rw [hw1, hb]
    have e : (((w.alloc (.cells #[.int .i64 6, .int .i64 0, .int .i64 1, .int .i64 2, .int .i64 3, .int .i64 4, .int .i64 5] 66)).alloc (.cells #[.slice none 0 0] 55)).alloc (.cells #[.slice none 0 0] 62)).alloc (.cells #[.int .i64 0] 3) = allocs w [.cells #[.int .i64 6, .int .i64 0, .int .i64 1, .int .i64 2, .int .i64 3, .int .i64 4, .int .i64 5] 66, .cells #[.slice none 0 0] 55, .cells #[.slice none 0 0] 62, .cells #[.int .i64 0] 3] := rfl
    rw [e]
    exact ⟨allocs_new w _ 0 _ rfl, allocs_new w _ 1 _ rfl, allocs_new w _ 2 _ rfl, allocs_new w _ 3 _ rfl⟩
  have hb1 : Below w.heap.size w w1 := by rw [hw1]; exact ((((Below.refl _ _).alloc (Nat.le_refl _) _).alloc (by simp) _).alloc (by simp; omega) _).alloc (by simp; omega) _
  have hs1 : w1.heap.size = b + 4 := by rw [hw1, hb]; simp
  obtain ⟨hbox, hr1⟩ := hall
  have q0 : w1.cell? ⟨b, 0, none⟩ = some (.int .i64 6) := by rw [cell_of_heap hbox]; rfl
  have q1 : w1.cell? ⟨b, 1, none⟩ = some (.int .i64 0) := by rw [cell_of_heap hbox]; rfl
  have q2 : w1.cell? ⟨b, 2, none⟩ = some (.int .i64 1) := by rw [cell_of_heap hbox]; rfl
  have q3 : w1.cell? ⟨b, 3, none⟩ = some (.int .i64 2) := by rw [cell_of_heap hbox]; rfl
  have q4 : w1.cell? ⟨b, 4, none⟩ = some (.int .i64 3) := by rw [cell_of_heap hbox]; rfl
  have q5 : w1.cell? ⟨b, 5, none⟩ = some (.int .i64 4) := by rw [cell_of_heap hbox]; rfl
  have q6 : w1.cell? ⟨b, 6, none⟩ = some (.int .i64 5) := by rw [cell_of_heap hbox]; rfl
  have hn : 0 < ns.length := by
    have := (HOK.out _ (List.getElem_mem (show 0 < us.length by rw [HN.out]; exact hpos))).c
    omega
  have HBL := Lib.hid (show ∀ a, B = some a → a.block < w.heap.size from fun a ha => by
    have h1 := HBB.out
    rw [ha] at h1
    exact strC_blk h1 hn)
  have hrl : (us.map (rowU ns)).length = N := by rw [List.length_map]; exact HN.out
  have HRE := Lib.hid (fun (W : World) (h : Hid (Below w1.heap.size w1 W)) => show Calls Tryd.prog 54 #[.slice A N c] W (RetRow kRow tRc (us.map (rowU ns)) W) from by
    have h1 := recs_any A c (us.map (rowU ns)) W (by rw [hrl]; exact Kd.C_below HC.out (hb1.trans (h.out.mono hb1.size))) (fun r hr => by
      obtain ⟨u, hu, rfl⟩ := List.mem_map.1 hr
      rw [row_len (HOK.out u hu)]; decide) (by rw [hrl]; omega)
    rw [hrl] at h1
    exact h1)
  have HZZ := Lib.hid (show ∀ (W : World) (base pi : Nat) (A6 : Option Addr) (c6 : Nat), Hid (kRow.R tRc W base (fun _ => True) (.slice A6 N c6) (us.map (rowU ns))) → Hid (base ≤ W.heap.size ∧ w1.heap.size ≤ base) → Hid (Below w1.heap.size w1 W) → Hid (W.heap[pi]? = some (.cells infoCells tInfo (0, 0))) →
      Calls Tryd.prog 53 #[.slice A6 N c6, ptr pi 0, .slice B ns.length cc] W (fun e w' => ∃ p, e = .returned (.tuple #[ptr p 0, .nilIface]) ∧ UnkD T p w' ∧ base ≤ p ∧ Below base W w') from fun W base pi A6 c6 hR hba hbl hpi => by
    refine zzUnk_of _ _ _ W .nilIface .nilIface ?_ (fun e w' h => by obtain ⟨p, he, _⟩ := h; exact ⟨_, _, he⟩)
    have h1 := parseU_any ns HND.out us (by rw [HN.out]; exact hpos) (by rw [HN.out]; exact hlen) hns HOK.out A6 B c6 cc pi (0, 0) W base (fun _ => True) (by rw [HN.out]; exact hR.out) hba.out.1 (Kd.C_below HBB.out (hb1.trans (hbl.out.mono hb1.size))) (fun a ha => by have := HBL.out a ha; have := hba.out; have := hb1.size; omega) hpi.out
    rw [← HT.out, HN.out] at h1
    exact h1)
  have H1 : Hid (Below w1.heap.size w1 w1) := Lib.hid (Below.refl _ _)
  have HB1 := Lib.hid hb1
  have HS1 := Lib.hid hs1
  have HR1 := Lib.hid hr1
  have HBE := Lib.hid hb
  clear hr1 hbox hs1 hb1 HBB HC hn
  unfold infoCells
  go_enter_defers Tryd.func31, Tryd.ntmps31
  go_upto_region 2 with fail
  rw [← hb, ← hw1]
  clear hw1 hb
  go_region_held3 (fun w' => w'.cell? ⟨b, 0, none⟩ = some (.int .i64 6) ∧ w'.cell? ⟨b, 1, none⟩ = some (.int .i64 0) ∧ w'.cell? ⟨b, 2, none⟩ = some (.int .i64 1) ∧ w'.cell? ⟨b, 3, none⟩ = some (.int .i64 2) ∧ w'.cell? ⟨b, 4, none⟩ = some (.int .i64 3) ∧ w'.cell? ⟨b, 5, none⟩ = some (.int .i64 4) ∧ w'.cell? ⟨b, 6, none⟩ = some (.int .i64 5))
    (first
      | with_reducible assumption
      | (refine keep7 q0 q1 q2 q3 q4 q5 q6 ?_; (first
        | with_reducible assumption
        | (repeat' (first | with_reducible assumption | refine hidU_dr ?_ | refine hidU_al ?_ _)))))
    (first
      | (go_at_call 54; go_split_ands; (with_reducible refine (HRE.out _ (hidU_dr H1)).mono ?_); rintro e w6 ⟨v6, rfl, hR6, hB6⟩; obtain ⟨A6, c6, hv6⟩ : ∃ A c, v6 = .slice A N c := (by obtain ⟨A, c, h⟩ := Kd.R_slice hR6; exact ⟨A, c, h.trans (by rw [hrl])⟩); subst hv6; have HR6 := Lib.hid hR6; have HB6 := hidU_tr (hidU_dr H1) hB6; clear hR6 hB6)
      | (go_at_call 55; go_split_ands; (refine (unkInfo_any w6).mono ?_); rintro e w7 ⟨pi, rfl, hP7, hz7, hB7⟩; have HP7 := Lib.hid hP7; have HR7 := Lib.hid (Kd.R_below HR6.out hB7); have HB7 := hidU_tr HB6 hB7; have HZ7 := Lib.hid (show w1.heap.size ≤ w7.heap.size ∧ w1.heap.size ≤ w1.heap.size from ⟨HB7.out.size, Nat.le_refl _⟩); clear hP7 hz7 hB7)
      | (go_at_call 53; go_split_ands; (refine (HZZ.out w7 w1.heap.size pi A6 c6 HR7 HZ7 HB7 HP7).mono ?_); rintro e w8 ⟨p, rfl, hD8, hpb, hB8⟩; have HD8 := Lib.hid hD8; have HPB := Lib.hid hpb; have HB8 := Lib.hid (HB7.out.trans hB8); clear hD8 hpb hB8))
  clear q0 q1 q2 q3 q4 q5 q6 HRE HZZ HBL HR6 HB6 HP7 HR7 HB7 HZ7
  try clear qS
  have hr8 := HR1.out.keep (fun k hk1 hk2 => HB8.out.block k (by have := HS1.out; omega))
  have HL8 := Lib.hid (HB1.out.trans (HB8.out.mono HB1.out.size))
  have HPB2 : Hid (b + 4 ≤ p) := Lib.hid (by have := HS1.out; have := HPB.out; omega)
  obtain ⟨r1, hr1⟩ : ∃ r, r = b + 1 := ⟨_, rfl⟩
  obtain ⟨r2, hr2⟩ : ∃ r, r = r1 + 1 := ⟨_, rfl⟩
  obtain ⟨r3, hr3⟩ : ∃ r, r = r2 + 1 := ⟨_, rfl⟩
  rw [← hr1] at hr8 ⊢
  rw [← hr2]
  rw [← hr3]
  have e2 : r1 + 1 = r2 := hr2.symm
  have e3 : r1 + 2 = r3 := by omega
  have HRR : Hid (w8.heap[r1]? = some (.cells #[.slice none 0 0] 55 (0, 0)) ∧ w8.heap[r2]? = some (.cells #[.slice none 0 0] 62 (0, 0)) ∧ w8.heap[r3]? = some (.cells #[.int .i64 0] 3 (0, 0))) := Lib.hid (by rw [← e2, ← e3]; exact hr8)
  have HRN := Lib.hid (show r1 ≠ r2 ∧ r1 ≠ r3 ∧ r2 ≠ r3 ∧ p ≠ r1 ∧ p ≠ r2 ∧ p ≠ r3 ∧ w.heap.size ≤ r1 ∧ w.heap.size ≤ r2 ∧ w.heap.size ≤ r3 from by have := HPB2.out; have := HBE.out; omega)
  obtain ⟨m1, m2, m3, D1, D2, A1, c1, A2, c2, hrow, hM, hCC, l1, l2, h1, h2, h3⟩ := HD8.out.ex
  have hTl : T.length = N := by rw [HT.out, sortK_length]; exact HN.out
  rw [hTl] at hrow
  have p0 : w8.cell? ⟨p, 0, none⟩ = some (.slice A1 N c1) := by rw [cell_of_heap hrow]; rfl
  have p1 : w8.cell? ⟨p, 1, none⟩ = some (.map (some m1)) := by rw [cell_of_heap hrow]; rfl
  have p2 : w8.cell? ⟨p, 2, none⟩ = some (.map (some m2)) := by rw [cell_of_heap hrow]; rfl
  have p3 : w8.cell? ⟨p, 3, none⟩ = some (.map (some m3)) := by rw [cell_of_heap hrow]; rfl
  have p4 : w8.cell? ⟨p, 4, none⟩ = some (.slice A2 N c2) := by rw [cell_of_heap hrow]; rfl
  clear hr8 hr1 hr2 hr3 e2 e3 hrow HR1 HB8 HS1 HPB HPB2 HBE HB1 H1
  unfold ptr
  go_upto_region 5 with fail
  have hTo : ∀ u ∈ T, OkU ns u := fun u hu => HOK.out u ((sortK_perm (nameU ns) us).mem_iff.1 (by rw [← HT.out]; exact hu))
  have hgr : Grp (T.map clsU) := grp_sorted HND.out hTo (by rw [HT.out]; exact sortK_asc (nameU ns) us)
  have HUB := Lib.hid (fun (W : World) (h : Hid (Below w8.heap.size w8 W)) => show Calls Tryd.prog 56 #[.agg #[.slice A1 N c1, .map (some m1), .map (some m2), .map (some m3), .slice A2 N c2]] W (fun e w' => ∃ g, e = .returned (.slice (some ⟨g, 0, none⟩) N N) ∧ kUn.C w' (some ⟨g, 0, none⟩) N T ∧ W.heap.size ≤ g ∧ Below W.heap.size W w') from by
    have h5 := unkBack_any T ns hgr hTo hns A1 A2 c1 c2 m1 m2 m3 D1 D2 W (Kd.C_below hM h.out) (Kd.C_below hCC h.out) (h1.below h.out) (h2.below h.out) (by rw [hTl]; exact hlen)
    rw [hTl] at h5
    exact h5)
  have HMBK := Lib.hid (fun (W : World) (h : Hid (Below w8.heap.size w8 W)) => M.marksBack_any m3 2 (D3 true true) W (M.map_below h3 h.out) D3_keys.2.2 D3_keys.2.1)
  have HBL2 := Lib.hid (show (M.backL (D3 true true)).length = 2 from by unfold M.backL; rw [List.length_map, List.length_mergeSort]; exact D3_keys.1)
  have AFT := Lib.hid (show ∀ w10 : World, Hid (Below w8.heap.size w8 w10) → S5p p A1 N c1 m1 m2 m3 A2 c2 w10 ∧ (∀ v, S5p p A1 N c1 m1 m2 m3 A2 c2 (w10.setCell ⟨r1, 0, none⟩ v)) ∧ (∀ v u, S5p p A1 N c1 m1 m2 m3 A2 c2 ((w10.setCell ⟨r1, 0, none⟩ v).setCell ⟨r2, 0, none⟩ u)) ∧ (∀ v u s, S5p p A1 N c1 m1 m2 m3 A2 c2 (((w10.setCell ⟨r1, 0, none⟩ v).setCell ⟨r2, 0, none⟩ u).setCell ⟨r3, 0, none⟩ s)) ∧
      (w10.heap[r1]? = some (.cells #[.slice none 0 0] 55 (0, 0)) ∧ w10.heap[r2]? = some (.cells #[.slice none 0 0] 62 (0, 0)) ∧ w10.heap[r3]? = some (.cells #[.int .i64 0] 3 (0, 0))) from fun w10 h => by
    obtain ⟨_, _, _, n1, n2, n3, _⟩ := HRN.out
    have e : ∀ {a : Addr} {v : Value}, w8.cell? a = some v → w10.cell? a = some v := fun hc => (h.out.cell (World.block_lt_of_cell? _ _ hc)).trans hc
    have hs : S5p p A1 N c1 m1 m2 m3 A2 c2 w10 := ⟨e p0, e p1, e p2, e p3, e p4⟩
    have k1 : ∀ v, S5p p A1 N c1 m1 m2 m3 A2 c2 (w10.setCell ⟨r1, 0, none⟩ v) := fun v => hs.far n1 _ _
    have k2 : ∀ v u, S5p p A1 N c1 m1 m2 m3 A2 c2 ((w10.setCell ⟨r1, 0, none⟩ v).setCell ⟨r2, 0, none⟩ u) := fun v u => (k1 v).far n2 _ _
    exact ⟨hs, k1, k2, fun v u s => (k2 v u).far n3 _ _, (h.out.block r1 (lt_of_heap HRR.out.1)).trans HRR.out.1, (h.out.block r2 (lt_of_heap HRR.out.2.1)).trans HRR.out.2.1, (h.out.block r3 (lt_of_heap HRR.out.2.2)).trans HRR.out.2.2⟩)
  have H8 : Hid (Below w8.heap.size w8 w8) := Lib.hid (Below.refl _ _)
  have HTL := Lib.hid hTl
  obtain ⟨n12, n13, n23, _⟩ := HRN.out
  have n21 := n12.symm
  have n31 := n13.symm
  have n32 := n23.symm
  clear hTo hgr hM hCC l1 l2 h1 h2 h3 HD8 hTl
  go_region_held3 (fun w' => w'.cell? ⟨p, 0, none⟩ = some (.slice A1 N c1) ∧ w'.cell? ⟨p, 1, none⟩ = some (.map (some m1)) ∧ w'.cell? ⟨p, 2, none⟩ = some (.map (some m2)) ∧ w'.cell? ⟨p, 3, none⟩ = some (.map (some m3)) ∧ w'.cell? ⟨p, 4, none⟩ = some (.slice A2 N c2))
    (first
      | with_reducible assumption
      | (with_reducible exact K3 _ _ _)
      | (with_reducible exact K2 _ _)
      | (with_reducible exact K1 _)
      | (with_reducible exact K0)
      | (refine (AFT.out _ ?_).1; (first
        | with_reducible assumption
        | (repeat' (first | with_reducible assumption | refine hidU_dr ?_ | refine hidU_al ?_ _)))))
    (first
      | (go_at_call 56; go_split_ands; (refine (HUB.out _ (hidU_dr H8)).mono ?_); rintro e w9 ⟨g, rfl, hU9, hg9, hB9⟩; have HU9 := Lib.hid hU9; have HGW := Lib.hid (show w8.heap.size ≤ g from by have := (hidU_dr H8).out.size; omega); have HB9 := hidU_tr (hidU_dr H8) hB9; clear hU9 hg9 hB9)
      | (go_at_call 57; go_split_ands; (refine (HMBK.out w9 HB9).mono ?_); rintro e w10 ⟨v10, rfl, hR10, hB10⟩; obtain ⟨A10, c10, hv10⟩ : ∃ A c, v10 = .slice A 2 c := (by obtain ⟨A, c, h⟩ := Kd.R_slice hR10; exact ⟨A, c, h.trans (by rw [HBL2.out])⟩); subst hv10; have HU10 := Lib.hid (Kd.C_below HU9.out hB10); have HB10 := hidU_tr HB9 hB10; obtain ⟨K0, K1, K2, K3, hz⟩ := AFT.out w10 HB10; have HZ := Lib.hid hz; have z1 := cell_of_heap hz.1 0; have z2 := cell_of_heap hz.2.1 0; have z3 := cell_of_heap hz.2.2 0; have y1 := frozen_of_heap hz.1 0; have y2 := frozen_of_heap hz.2.1 0; have y3 := frozen_of_heap hz.2.2 0; simp only [List.getElem?_toArray, List.getElem?_cons_zero] at z1 z2 z3; clear hR10 hB10 hz))
  go_wp2_with fail
  clear z1 z2 z3 y1 y2 y3 K0 K1 K2 K3 p0 p1 p2 p3 p4
  obtain ⟨z1, z2, z3⟩ := HZ.out
  obtain ⟨n12, n13, n23, _, _, _, l1, l2, l3⟩ := HRN.out
  have hlt3 := lt_of_heap HRR.out.2.2
  have hlt1 := lt_of_heap HRR.out.1
  have hlt2 := lt_of_heap HRR.out.2.1
  have hgw := HGW.out
  have hne : ∀ u ∈ T, 0 < u.2.2.2.2.length := fun u hu => by
    have hu' : u ∈ us := (sortK_perm (nameU ns) us).mem_iff.1 (by rw [← HT.out]; exact hu)
    have := (HOK.out u hu').n
    omega
  have hU1 := kUn_set HU10.out hne z1 (fun _ h => by cases h) (show g ≠ r1 by omega) (.slice (some ⟨g, 0, none⟩) N N)
  have z21 := (heap_set_ne n12.symm 0 (.slice (some ⟨g, 0, none⟩) N N)).trans z2
  have z31 := (heap_set_ne n13.symm 0 (.slice (some ⟨g, 0, none⟩) N N)).trans z3
  have hU2 := kUn_set hU1 hne z21 (fun _ h => by cases h) (show g ≠ r2 by omega) (.slice A10 2 c10)
  have z32 := (heap_set_ne n23.symm 0 (.slice A10 2 c10)).trans z31
  have hU3 := kUn_set hU2 hne z32 (fun _ h => by cases h) (show g ≠ r3 by omega) (.int .i64 0)
  have hb3 := (((HL8.out.trans (HB10.out.mono HL8.out.size)).setCell (p := ⟨r1, 0, none⟩) l1 (.slice (some ⟨g, 0, none⟩) N N)).setCell (p := ⟨r2, 0, none⟩) l2 (.slice A10 2 c10)).setCell (p := ⟨r3, 0, none⟩) l3 (.int .i64 0)
  have d1 : (((w10.setCell ⟨r1, 0, none⟩ (.slice (some ⟨g, 0, none⟩) N N)).setCell ⟨r2, 0, none⟩ (.slice A10 2 c10)).setCell ⟨r3, 0, none⟩ (.int .i64 0)).cell? ⟨r1, 0, none⟩ = some (.slice (some ⟨g, 0, none⟩) N N) := by
    rw [cell_far n13, cell_far n12, cell_of_heap (heap_set z1 0 _)]; rfl
  have d2 : (((w10.setCell ⟨r1, 0, none⟩ (.slice (some ⟨g, 0, none⟩) N N)).setCell ⟨r2, 0, none⟩ (.slice A10 2 c10)).setCell ⟨r3, 0, none⟩ (.int .i64 0)).cell? ⟨r2, 0, none⟩ = some (.slice A10 2 c10) := by
    rw [cell_far n23, cell_of_heap (heap_set z21 0 _)]; rfl
  have d3 : (((w10.setCell ⟨r1, 0, none⟩ (.slice (some ⟨g, 0, none⟩) N N)).setCell ⟨r2, 0, none⟩ (.slice A10 2 c10)).setCell ⟨r3, 0, none⟩ (.int .i64 0)).cell? ⟨r3, 0, none⟩ = some (.int .i64 0) := by
    rw [cell_of_heap (heap_set z32 0 _)]; rfl
  clear hU1 hU2 z1 z2 z3 z21 z31 z32 HU9 HU10 HB9 HB10 HZ HL8 AFT H8 HUB HMBK
  revert d1 d2 d3 hU3 hb3
  generalize ((w10.setCell ⟨r1, 0, none⟩ (.slice (some ⟨g, 0, none⟩) N N)).setCell ⟨r2, 0, none⟩ (.slice A10 2 c10)).setCell ⟨r3, 0, none⟩ (.int .i64 0) = w11
  intro hU3 hb3 d1 d2 d3
  have HU3 := Lib.hid hU3
  have HB3 := Lib.hid hb3
  clear hU3 hb3
  refine leaves_cons (f := 52) (args := #[.pointer (some ⟨r1, 0, none⟩), .pointer (some ⟨r2, 0, none⟩), .pointer (some ⟨r3, 0, none⟩)]) (by simp) (by simp [go_sem]) ?_
  refine (recoverU ⟨r1, 0, none⟩ ⟨r2, 0, none⟩ ⟨r3, 0, none⟩ _).mono ?_
  rintro e u' w'' ⟨rfl, rfl, rfl⟩
  simp [Leaves, settle, results, Tryd.results31, go_sem, d1, d2, d3]
  refine ⟨some ⟨g, 0, none⟩, N, A10, c10, by rw [HTL.out], by rw [HTL.out]; exact Nat.le_refl N, by rw [HTL.out]; exact HU3.out, HB3.out⟩
end Go.Proofs.YteoljiclmhmbnaaDoor.Tx

/-
  The walks of laws.unkInfo and laws.guesses.
-/
set_option linter.unusedVariables false
set_option linter.unusedSimpArgs false
namespace Go.Proofs.YteoljiclmhmbnaaDoor.Tx
open Go.RowKit Go.Proofs.YteoljiclmhmbnaaDoorW.PrintWords Go.Proofs.YteoljiclmhmbnaaDoor.K

set_option maxHeartbeats 400000 in
theorem lawInfo_any (w : World) : Calls Tryd.prog 32 #[] w fun e w' => e = .returned (.agg infoCells) ∧ Below w.heap.size w w' := by
  go_enter Tryd.func32, Tryd.ntmps32
  go_wp2_with fail
  go_returns
  exact ⟨rfl, (Below.refl _ _).alloc (Nat.le_refl _) _⟩
abbrev gU : Un := (1, 1, 2, 3, [⟨#[110]⟩, ⟨#[120]⟩])
abbrev gNs : List ByteArray := [⟨#[66]⟩, ⟨#[65]⟩]
theorem gRow : rowU gNs gU = [⟨#[65]⟩, ⟨#[49]⟩, ⟨#[50]⟩, ⟨#[51]⟩, ⟨#[110]⟩, ⟨#[120]⟩] := by
  have h1 : Lib.itoa 1 = [49] := by kernel_rfl
  have h2 : Lib.itoa 2 = [50] := by kernel_rfl
  have h3 : Lib.itoa 3 = [51] := by kernel_rfl
  show _ :: ofL (Lib.itoa 1) :: ofL (Lib.itoa 2) :: ofL (Lib.itoa 3) :: _ = _
  rw [h1, h2, h3]
  rfl
theorem gOk : OkU gNs gU := ⟨by decide, by decide, by decide, by decide, by decide⟩
theorem gSort : sortK (nameU gNs) [gU] = [gU] := List.perm_singleton.1 (sortK_perm _ _)
theorem g_rows (w : World) : kRow.C ((w.alloc (.cells #[.string ⟨#[65]⟩, .string ⟨#[49]⟩, .string ⟨#[50]⟩, .string ⟨#[51]⟩, .string ⟨#[110]⟩, .string ⟨#[120]⟩] 9)).alloc (.cells #[.slice (some ⟨w.heap.size, 0, none⟩) 6 6] 29)) (some ⟨w.heap.size + 1, 0, none⟩) 1 ([gU].map (rowU gNs)) := by
  have h1 := C_of_block (d := Kd.string) (cs := [.string ⟨#[65]⟩, .string ⟨#[49]⟩, .string ⟨#[50]⟩, .string ⟨#[51]⟩, .string ⟨#[110]⟩, .string ⟨#[120]⟩]) (heap_new w (.cells #[.string ⟨#[65]⟩, .string ⟨#[49]⟩, .string ⟨#[50]⟩, .string ⟨#[51]⟩, .string ⟨#[110]⟩, .string ⟨#[120]⟩] 9)) (reps_strs _ [⟨#[65]⟩, ⟨#[49]⟩, ⟨#[50]⟩, ⟨#[51]⟩, ⟨#[110]⟩, ⟨#[120]⟩]) (by decide)
  have h2 := heap_new (w.alloc (.cells #[.string ⟨#[65]⟩, .string ⟨#[49]⟩, .string ⟨#[50]⟩, .string ⟨#[51]⟩, .string ⟨#[110]⟩, .string ⟨#[120]⟩] 9)) (.cells #[.slice (some ⟨w.heap.size, 0, none⟩) 6 6] 29)
  rw [size_alloc] at h2
  rw [List.map_cons, List.map_nil, gRow]
  exact C_of_block (d := kRow) (cs := [.slice (some ⟨w.heap.size, 0, none⟩) 6 6]) h2 ((Reps.none _ _).snoc ⟨_, _, rfl, by decide, Kd.C_alloc h1 _⟩ rfl) (by decide)
theorem g_names (w : World) : Kd.string.C (w.alloc (.cells #[.string ⟨#[66]⟩, .string ⟨#[65]⟩] 9)) (some ⟨w.heap.size, 0, none⟩) 2 gNs :=
  C_of_block (d := Kd.string) (cs := [.string ⟨#[66]⟩, .string ⟨#[65]⟩]) (heap_new w _) (reps_strs _ gNs) (by decide)
theorem g_un (w : World) : kUn.C ((w.alloc (.cells #[.string ⟨#[110]⟩, .string ⟨#[120]⟩] 9)).alloc (.cells #[.int .i64 1, .int .i64 1, .int .i64 2, .int .i64 3, .slice (some ⟨w.heap.size, 0, none⟩) 2 2] 60)) (some ⟨w.heap.size + 1, 0, none⟩) 1 [gU] := by
  have h1 := C_of_block (d := Kd.string) (cs := [.string ⟨#[110]⟩, .string ⟨#[120]⟩]) (heap_new w (.cells #[.string ⟨#[110]⟩, .string ⟨#[120]⟩] 9)) (reps_strs _ [⟨#[110]⟩, ⟨#[120]⟩]) (by decide)
  have h2 := heap_new (w.alloc (.cells #[.string ⟨#[110]⟩, .string ⟨#[120]⟩] 9)) (.cells #[.int .i64 1, .int .i64 1, .int .i64 2, .int .i64 3, .slice (some ⟨w.heap.size, 0, none⟩) 2 2] 60)
  rw [size_alloc] at h2
  exact C_of_block (d := kUn) (cs := [.int .i64 1, .int .i64 1, .int .i64 2, .int .i64 3, .slice (some ⟨w.heap.size, 0, none⟩) 2 2]) h2 ((Reps.none _ _).snoc ⟨[_], [_, _, _, _], rfl, rfl, [_], [_, _, _], rfl, rfl, [_], [_, _], rfl, rfl, [_], [_], rfl, rfl, _, _, rfl, by decide, Kd.C_alloc h1 _⟩ rfl) (by decide)
def RetT (w : World) (e : Ending) (w' : World) : Prop := e = .returned (.bool true) ∧ Below w.heap.size w w'
set_option maxHeartbeats 2000000 in
set_option maxRecDepth 5000 in
theorem guesses_any (w : World) : Calls Tryd.prog 29 #[] w (RetT w) := by
  go_enter Tryd.func29, Tryd.ntmps29
  go_wp2_with fail
  have HR := Lib.hid (g_rows w)
  have HB0 : Hid (Below w.heap.size w ((w.alloc (.cells #[.string ⟨#[65]⟩, .string ⟨#[49]⟩, .string ⟨#[50]⟩, .string ⟨#[51]⟩, .string ⟨#[110]⟩, .string ⟨#[120]⟩] 9)).alloc (.cells #[.slice (some ⟨w.heap.size, 0, none⟩) 6 6] 29))) := Lib.hid (((Below.refl _ _).alloc (Nat.le_refl _) _).alloc (by simp) _)
  refine (lawInfo_any _).mono ?_
  rintro e w1 ⟨rfl, hb1⟩
  have HR1 := Lib.hid (Kd.C_below HR.out hb1)
  have HB1 := Lib.hid (HB0.out.trans (hb1.mono HB0.out.size))
  clear hb1 HR HB0
  go_wp2_with fail
  have HU := Lib.hid (unknowns_any gNs (by decide) [gU] (by decide) (by decide) (by decide) (fun u hu => by rw [List.mem_singleton.1 hu]; exact gOk) _ _ 1 2 _ (Kd.C_alloc HR1.out _) (g_names w1))
  refine HU.out.mono ?_
  rintro e w2 ⟨A, c, B, c', rfl, hc, hC, hb2⟩
  rw [gSort] at hC ⊢
  have HC := Lib.hid hC
  have HB2 := Lib.hid ((HB1.out.alloc HB1.out.size _).trans (hb2.mono (by have := HB1.out.size; simp; omega)))
  clear hC hb2 HU HR1 HB1
  trace_state
  go_wp2_with fail
  refine (sameUnknown_self A _ c 1 [gU] _ (Kd.C_alloc (Kd.C_alloc HC.out _) _) (g_un w2)).mono ?_
  rintro e w3 ⟨rfl, hb3⟩
  have HB3 := Lib.hid (((HB2.out.alloc HB2.out.size _).alloc (by have := HB2.out.size; simp; omega) _).trans (hb3.mono (by have := HB2.out.size; simp; omega)))
  clear hb3
  go_wp2
  go_ret
  exact ⟨by simp, HB3.out⟩
end Go.Proofs.YteoljiclmhmbnaaDoor.Tx

/-
  The walk of laws.unkRecord.
-/
set_option linter.unusedVariables false
set_option linter.unusedSimpArgs false
namespace Go.Proofs.YteoljiclmhmbnaaDoor.Tx
open Go.RowKit Go.Proofs.YteoljiclmhmbnaaDoorW.PrintWords Go.Proofs.YteoljiclmhmbnaaDoor.K

theorem infoS : (Tryd.prog.info? 9).map (fun i => (i.zero, i.size, i.bytes)) = some (some (.string ⟨#[]⟩), Kd.string.sz, 16) := by kernel_rfl
theorem lit4 (W : World) (base : Nat) (hb : base ≤ W.heap.size) (p q r t : ByteArray) : Kd.string.R 9 (W.alloc (.cells #[.string p, .string q, .string r, .string t] 9)) base (fun _ => True) (.slice (some ⟨W.heap.size, 0, none⟩) 4 4) [p, q, r, t] := by
  refine Kd.R_of_own ?_ (fun _ _ => trivial)
  exact World.ownsRow_lit (base := base) (e := 9) (size := 1) W #[.string p, .string q, .string r, .string t] 4 hb (by decide) rfl
/-- append of the contents to the row of four texts, as a step of a region. -/
theorem app18 {w0 w1 : World} (base : Nat) (hb : base ≤ w1.heap.size) (p q r t : ByteArray) {A1 : Option Addr} {c1 : Nat} {ys : List ByteArray} (hC : Kd.string.C w1 A1 ys.length ys) (hB : Below base w0 w1) (hl : ys.length = 2)
    {ops : Array Oper} {o : Oper} {a : Act} {Q : Exit → Act → World → Prop} {K : Act → World → Prop} (hw : Region.wanted o (yielded ops a.tmps) = true) (s x : Operand)
    (ho : o.op = .call { callee := .builtin .append, args := #[s, x], argTypes := #[29, 29] }) (hs : a.eval s = .slice (some ⟨w1.heap.size, 0, none⟩) 4 4) (hx : a.eval x = .slice A1 ys.length c1)
    (h : ∀ v w2, Kd.string.R 9 w2 base (fun _ => True) v ([p, q, r, t] ++ ys) → Below base w0 w2 → Below w1.heap.size w1 w2 → K (a.put o.dst v) w2) :
    if Region.wanted o (yielded ops a.tmps) = true then Oper.wp Tryd.prog o a ((w1.alloc (.cells #[.string p, .string q, .string r, .string t] 9)).drew) K Q else K (a.put o.dst undef) ((w1.alloc (.cells #[.string p, .string q, .string r, .string t] 9)).drew) :=
  Kd.R_append_rows_step Kd.string (w0 := w0) base hw s x 29 9 (.string ⟨#[]⟩) 16 ho Tryd.underlying29 infoS rfl (by decide) (by decide) (.slice (some ⟨w1.heap.size, 0, none⟩) 4 4) [p, q, r, t] ys A1 ys.length c1 (fun _ => True) (fun _ => False) hs hx
    (Kd.R_below (lit4 w1 base hb p q r t) (below_drew (Below.refl _ _))) (Kd.C_alloc hC _) (fun _ _ h => h) (fun _ h => h.elim) (fun _ _ => trivial) (below_drew (hB.alloc hb _)) (by show base ≤ (w1.alloc _).heap.size; rw [size_alloc]; omega) (by rw [hl]; show (4 + 2) * 16 ≤ _; decide) (fun v w2 h1 h2 h3 _ => h v w2 h1 h2 ((below_drew ((Below.refl w1.heap.size w1).alloc (Nat.le_refl _) _)).grown h3 (by show w1.heap.size ≤ (w1.alloc _).heap.size; rw [size_alloc]; omega) (fun k hk => Nat.le_of_eq (by simpa [Value.ownBlock] using hk))))
set_option maxRecDepth 5000 in
set_option maxHeartbeats 1000000 in
theorem unkRecord_any (cs : List Cls) (u : Un) (hok : OkU (cs.map (·.1)) u) (A A1 : Option Addr) (c c1 : Nat) (w : World) (hC : kCls.C w A cs.length cs) (hD : Kd.string.C w A1 u.2.2.2.2.length u.2.2.2.2) :
    Calls Tryd.prog 30 #[.agg #[.int .i64 u.1, .int .i64 u.2.1, .int .i64 u.2.2.1, .int .i64 u.2.2.2.1, .slice A1 u.2.2.2.2.length c1], .slice A cs.length c] w fun e w' =>
      ∃ v, e = .returned v ∧ Kd.string.R 9 w' w.heap.size (fun _ => True) v (rowU (cs.map (·.1)) u) ∧ Below w.heap.size w w' := by
  have h1 := hok.l
  have h2 := hok.r
  have h3 := hok.w
  obtain ⟨j, hj, hju⟩ : ∃ j : Nat, j < cs.length ∧ u.1 = (j : Int) := ⟨u.1.toNat, by have := hok.c; rw [List.length_map] at this; omega, by have := hok.c; omega⟩
  obtain ⟨ad, rfl, s0, _, _⟩ := cls_at hC j hj
  have HD := Lib.hid hD
  have HN : Hid (u.2.2.2.2.length = 2) := Lib.hid hok.n
  have HL := Lib.hid (fun W => digits_any W u.2.1 (by omega) (by omega))
  have HR := Lib.hid (fun W => digits_any W u.2.2.1 (by omega) (by omega))
  have HW := Lib.hid (fun W => digits_any W u.2.2.2.1 (by omega) (by omega))
  clear h1 h2 h3 hC hD hok
  obtain ⟨a, l, r, s, ys⟩ := u
  subst hju
  have p0 : (0 : Int) ≤ j := by omega
  have p1 : (j : Int) < (cs.length : Int) := by omega
  go_enter Tryd.func30, Tryd.ntmps30
  go_wp2_with fail
  obtain ⟨b, hb⟩ : ∃ b, b = w.heap.size := ⟨_, rfl⟩
  obtain ⟨w1, hw1⟩ : ∃ w1, w1 = w.alloc (.cells #[.int .i64 (j : Int), .int .i64 l, .int .i64 r, .int .i64 s, .slice A1 ys.length c1] 60) := ⟨_, rfl⟩
  have hbox : w1.heap[b]? = some (.cells #[.int .i64 (j : Int), .int .i64 l, .int .i64 r, .int .i64 s, .slice A1 ys.length c1] 60 (0, 0)) := by rw [hw1, hb]; exact heap_new w _
  have q0 : w1.cell? ⟨b, 0, none⟩ = some (.int .i64 (j : Int)) := by rw [cell_of_heap hbox]; rfl
  have q1 : w1.cell? ⟨b, 1, none⟩ = some (.int .i64 l) := by rw [cell_of_heap hbox]; rfl
  have q2 : w1.cell? ⟨b, 2, none⟩ = some (.int .i64 r) := by rw [cell_of_heap hbox]; rfl
  have q3 : w1.cell? ⟨b, 3, none⟩ = some (.int .i64 s) := by rw [cell_of_heap hbox]; rfl
  have q4 : w1.cell? ⟨b, 4, none⟩ = some (.slice A1 ys.length c1) := by rw [cell_of_heap hbox]; rfl
  have HB1 : Hid (Below w.heap.size w w1) := Lib.hid (by rw [hw1]; exact (Below.refl _ _).alloc (Nat.le_refl _) _)
  have q5 : w1.cell? (ad.add (j * 3)) = some (.string cs[j].1) := (HB1.out.cell (World.block_lt_of_cell? w _ s0)).trans s0
  have HC1 := Lib.hid (Kd.C_below HD.out HB1.out)
  rw [← hw1]
  subst hb
  clear hbox hw1 s0
  have al : ∀ {o : Obj} {q : Addr} {v : Value}, w1.cell? q = some v → (w1.alloc o).cell? q = some v := fun {o q v} h => (((Below.refl w1.heap.size w1).alloc (Nat.le_refl _) o).cell (World.block_lt_of_cell? _ _ h)).trans h
  go_region_held3 (fun w' => w'.cell? ⟨w.heap.size, 0, none⟩ = some (.int .i64 (j : Int)) ∧ w'.cell? ⟨w.heap.size, 1, none⟩ = some (.int .i64 l) ∧ w'.cell? ⟨w.heap.size, 2, none⟩ = some (.int .i64 r) ∧ w'.cell? ⟨w.heap.size, 3, none⟩ = some (.int .i64 s) ∧ w'.cell? ⟨w.heap.size, 4, none⟩ = some (.slice A1 ys.length c1) ∧ w'.cell? (ad.add (j * 3)) = some (.string cs[j].1))
    (first
      | with_reducible assumption
      | (exact ⟨q0, q1, q2, q3, q4, q5⟩)
      | (exact ⟨al q0, al q1, al q2, al q3, al q4, al q5⟩)
      | (have e : ∀ {q : Addr} {v : Value}, w1.cell? q = some v → w2.cell? q = some v := fun hc => (HC2.out.cell (World.block_lt_of_cell? _ _ hc)).trans hc; exact ⟨e q0, e q1, e q2, e q3, e q4, e q5⟩))
    (first
      | (go_at_call 51; go_split_ands; (with_reducible refine (HL.out _).mono ?_); rintro e w2 ⟨rfl, hw2⟩; subst hw2)
      | (go_at_call 51; go_split_ands; (with_reducible refine (HR.out _).mono ?_); rintro e w2 ⟨rfl, hw2⟩; subst hw2)
      | (go_at_call 51; go_split_ands; (with_reducible refine (HW.out _).mono ?_); rintro e w2 ⟨rfl, hw2⟩; subst hw2)
      | (refine app18 (w0 := w) w.heap.size HB1.out.size cs[j].1 (ofL (Lib.itoa l)) (ofL (Lib.itoa r)) (ofL (Lib.itoa s)) HC1.out HB1.out HN.out (by rfl) (.tmp 20) (.tmp 22) rfl rfl rfl ?_; intro v1 w2 hR1 hB1 hC2; have HR2 := Lib.hid hR1; have HB2 := Lib.hid hB1; have HC2 := Lib.hid hC2; clear hR1 hB1 hC2))
  go_wp2
  go_ret
  refine ⟨v1, rfl, ?_, HB2.out⟩
  have h := HR2.out
  have e : rowU (cs.map (·.1)) ((j : Int), l, r, s, ys) = [cs[j].1, ofL (Lib.itoa l), ofL (Lib.itoa r), ofL (Lib.itoa s)] ++ ys := by
    unfold rowU
    simp [List.getD, hj]
  rw [e]
  exact h
end Go.Proofs.YteoljiclmhmbnaaDoor.Tx

/-
  The walk of laws.classNames.
-/
set_option linter.unusedVariables false
set_option linter.unusedSimpArgs false
namespace Go.Proofs.YteoljiclmhmbnaaDoor.Tx
open Go.RowKit Go.Proofs.YteoljiclmhmbnaaDoorW.PrintWords Go.Proofs.YteoljiclmhmbnaaDoor.K

set_option maxHeartbeats 1000000 in
theorem classNames_any (A : Option Addr) (c : Nat) (cs : List Cls) (w : World) (hC : kCls.C w A cs.length cs) (hl : cs.length ≤ 100000) :
    Calls Tryd.prog 33 #[.slice A cs.length c] w fun e w' => ∃ v, e = .returned v ∧ w'.ownsRow w.heap.size 9 1 v cs.length ((cs.map (·.1)).map Value.string) ∧ Below w.heap.size w w' := by
  have hm := hC.2.1
  have HC := Lib.hid hC
  clear hC
  go_enter Tryd.func33, Tryd.ntmps33
  go_wp2
  go_loopw [3, 8] (fun ov i wr => ∃ k : Nat, k ≤ cs.length ∧ i = .int .i64 k ∧ Hid (wr.ownsRow w.heap.size 9 1 ov k (((cs.take k).map (·.1)).map Value.string)) ∧ Hid (Below w.heap.size w wr)) (fun _ i _ => cs.length - (intOf i).toNat)
  case atStart => exact ⟨0, Nat.zero_le _, rfl, Lib.hid (World.ownsRow_nil _ _ _ _), Lib.hid (Below.refl _ _)⟩
  case round =>
    obtain ⟨k, hk, rfl, HO, hbel⟩ := hrel
    by_cases hlt : k < cs.length
    · obtain ⟨ad, rfl, s0, s1, s2⟩ := cls_at (Kd.C_below HC.out hbel.out) k hlt
      have hszr := hbel.out.size
      have htk : (cs.take (k + 1)).map (·.1) = (cs.take k).map (·.1) ++ [cs[k].1] := by
        rw [List.take_succ_eq_append_getElem hlt, List.map_append]; rfl
      have hkl : (((cs.take k).map (·.1)).map Value.string).length = k := by simp; omega
      have HTK := Lib.hid htk
      have HKL := Lib.hid hkl
      clear htk hkl
      generalize (cs.take k).map (·.1) = L at *
      generalize cs[k] = u at *
      obtain ⟨a, p, q⟩ := u
      have HO2 : Hid (wr.ownsRow w.heap.size 9 1 _ (L.map Value.string).length (L.map Value.string)) := Lib.hid (by rw [HKL.out]; exact HO.out)
      go_wp2_with (at_builtin; refine app1 (w0 := w) w.heap.size rfl _ _ 29 9 (.string ByteArray.empty) 16 rfl Tryd.underlying29 (by kernel_rfl) rfl (by decide) _ (L.map Value.string) (.string a) (wr.heap.size + 1) rfl rfl ?hg rfl ((HO2.out.alloc _).alloc _) ((hbel.out.alloc hszr _).alloc (by simp; omega) _) (by simp; omega) (by rw [HKL.out]; omega) ?_)
      intro v1 w1 hown hb1 hgr1 hat1
      have hw : w1.ownsRow w.heap.size 9 1 v1 (k + 1) (((cs.take (k + 1)).map (·.1)).map Value.string) := by
        rw [HTK.out, List.map_append]
        have e : (L.map Value.string).length = k := HKL.out
        rw [List.length_map] at e
        rw [← e]
        exact hown
      have HW := Lib.hid hw
      have HB := Lib.hid hb1
      clear hown hb1 hgr1 hat1 hw
      go_wp2_with fail
      exact ⟨⟨k + 1, by omega, by go_num, HW, HB⟩, by simp [intOf]; omega⟩
    · go_wp2
      go_ret
      obtain rfl : k = cs.length := by omega
      have := HO.out
      rw [List.take_length] at this
      exact ⟨_, rfl, this, hbel.out⟩
end Go.Proofs.YteoljiclmhmbnaaDoor.Tx

/-
  The walk of laws.byName: entries in a row of their own, put in order by insertion, by the names of their classes.
-/
set_option linter.unusedVariables false
set_option linter.unusedSimpArgs false
namespace Go.Proofs.YteoljiclmhmbnaaDoor.Tx
open Go.RowKit Go.Proofs.YteoljiclmhmbnaaDoor.K Go.Proofs.YteoljiclmhmbnaaDoorW.PrintWords
open Go.Sort (insInner insOuter insertionSort)
open Go.Proofs.YteoljiclmhmbnaaDoor.St (stab)

/-- The name of an entry's class. -/
def nameC (cs : List Cls) (c : Int) : List UInt8 := (cs.getD c.toNat default).1.data.toList
/-- The row that holds a list in its order of the day. -/
def UnRow (g cap base : Nat) (w wr : World) (M : List ChU) : Prop :=
  kChU.R 60 wr base (fun _ => True) (.slice (some ⟨g, 0, none⟩) M.length cap) M ∧ Below base w wr
theorem unRow_drewN {g cap base : Nat} {w wr : World} {M : List ChU} (h : UnRow g cap base w wr M) (n : Nat) : UnRow g cap base w (wr.drewN n) M :=
  ⟨Kd.R_below h.1 (pw_below_drewN (Below.refl _ _) n), pw_below_drewN h.2 n⟩
theorem infoU : (Tryd.prog.info? 60).map (fun i => (i.zero, i.size, i.bytes)) = some (some (.agg #[.int .i64 0, .int .i64 0, .int .i64 0, .int .i64 0, .slice none 0 0]), 5, 56) := by kernel_rfl
theorem ins_zero {lt : Nat → Nat → Bool} (n : Nat) : insOuter lt 0 n 0 (Array.range n) = stab lt n := by
  unfold stab insertionSort
  by_cases h : 0 < n
  · rw [insOuter_go _ _ _ _ _ h, insInner_stop _ _ _ _ (.inl (Nat.le_refl _))]
  · rw [insOuter_stop _ _ _ _ _ h, insOuter_stop _ _ _ _ _ (by omega)]

set_option maxHeartbeats 2000000 in
theorem byName_any (A B : Option Addr) (c c' : Nat) (xs : List ChU) (cs : List Cls) (w : World) (hc : xs.length ≤ c) (hC : kChU.C w A xs.length xs) (hD : kCls.C w B cs.length cs) (hcl : ∀ x ∈ xs, 0 ≤ x.1 ∧ x.1 < cs.length) (hb : xs.length * 112 ≤ 140737488355328) :
    Calls Tryd.prog 35 #[.slice A xs.length c, .slice B cs.length c'] w (RetRow kChU 60 (sortK (fun x : ChU => nameC cs x.1) xs) w) := by
  have HC := Lib.hid hC
  have HD := Lib.hid hD
  have HCL := Lib.hid hcl
  clear hC hD hcl
  go_enter Tryd.func35, Tryd.ntmps35
  go_wp2_with (at_builtin; refine Kd.R_append_rows kChU (Rr := kChU.K (w.alloc (.cells #[] 60))) (w0 := w) w.heap.size rfl _ _ 55 60 (.agg #[.int .i64 0, .int .i64 0, .int .i64 0, .int .i64 0, .slice none 0 0]) 56 rfl Tryd.underlying55 infoU rfl (by decide) (by decide) (.slice (some ⟨w.heap.size, 0, none⟩) 0 0) [] xs A xs.length c (fun _ => True) (fun _ => False) rfl rfl (R_empty _ _ _ _ (Nat.le_refl _)) (Kd.C_alloc HC.out _) (fun _ _ h => h) (fun _ h => h.elim) (fun _ _ => trivial) ((Below.refl _ _).alloc (Nat.le_refl _) _) (by simp) (by simp; omega) ?_)
  intro v1 w1 hR1 hB1 hg1 hat1
  obtain ⟨A1, c1, hv1⟩ := Kd.R_slice hR1

  subst hv1
  have HR1 := Lib.hid hR1
  have HB1 := Lib.hid hB1
  clear hR1 hB1 hg1 hat1
  rcases Nat.eq_zero_or_pos xs.length with h0 | h0
  · obtain rfl : xs = [] := List.length_eq_zero_iff.1 h0
    go_wp2_with fail
    go_loopw [5, 6, 12] (fun _ _ iv wr => iv = .int .i64 0 ∧ wr = w1) (fun _ _ _ _ => 0)
    case atStart => exact ⟨rfl, rfl⟩
    case round =>
      obtain ⟨rfl, rfl⟩ := hrel
      go_wp2_with fail
      go_ret
      have e : sortK (fun x : ChU => nameC cs x.1) [] = [] := List.length_eq_zero_iff.1 (by rw [sortK_length]; rfl)
      exact ⟨_, rfl, by rw [e]; exact HR1.out, HB1.out⟩
  obtain ⟨g, rfl⟩ : ∃ g, A1 = some ⟨g, 0, none⟩ := by
    rcases HR1.out.2.choose_spec.1.2 with ⟨_, h1⟩ | ⟨g, cap, cur, he, _⟩
    · exact absurd (by simpa using h1) (show ¬ xs = [] from fun e => by rw [e] at h0; simp at h0)
    · simp at he; exact ⟨g, he.1⟩
  obtain ⟨lt, hlt'⟩ : ∃ lt, lt = ltK (fun x : ChU => nameC cs x.1) xs := ⟨_, rfl⟩
  have HLT := Lib.hid hlt'
  have hpr := pick_range xs
  have HPR := Lib.hid hpr
  clear hlt' hpr
  obtain ⟨N, hN⟩ : ∃ N, N = xs.length := ⟨_, rfl⟩
  rw [← hN] at h0 HR1 HC hc hb ⊢
  have HN := Lib.hid hN
  clear hN
  go_wp2_with fail
  go_loopw [5, 6, 12] (fun _ _ iv wr => ∃ (i : Nat) (d : Array Nat), i ≤ N ∧ iv = .int .i64 i ∧ d.size = N ∧ Hid (∀ j, j < N → d[j]! < N) ∧ Hid (insOuter lt 0 N i d = insOuter lt 0 N 0 (Array.range N)) ∧ Hid (UnRow g c1 w.heap.size w wr (pick xs d))) (fun _ _ iv _ => N - (intOf iv).toNat)
  case atStart => exact ⟨0, Array.range N, Nat.zero_le _, rfl, by simp, Lib.hid (fun j hj => by rw [St.get_range hj]; exact hj), Lib.hid rfl, Lib.hid ⟨by rw [HN.out, HPR.out, ← HN.out]; exact HR1.out, HB1.out⟩⟩
  case round =>
    obtain ⟨i, d, hi, rfl, hd, HP, HA, HR⟩ := hrel
    by_cases hlt : i < N
    · go_wp2_with fail
      go_loopw [6] (fun kv wr => ∃ (k : Nat) (dk : Array Nat), k ≤ i ∧ kv = .int .i64 k ∧ dk.size = N ∧ Hid (∀ j, j < N → dk[j]! < N) ∧ Hid (insInner lt 0 k dk = insInner lt 0 i d) ∧ Hid (UnRow g c1 w.heap.size w wr (pick xs dk))) (fun kv _ => (intOf kv).toNat)
      case atStart => exact ⟨i, d, Nat.le_refl _, rfl, hd, HP, Lib.hid rfl, HR⟩
      case round =>
        clear HP HR
        obtain ⟨k, dk, hk, rfl, hdk, HP, HI, HR⟩ := hrel
        have OUT : Hid ((k = 0 ∨ lt dk[k]! dk[k - 1]! = false) → insOuter lt 0 N (i + 1) dk = insOuter lt 0 N 0 (Array.range N)) := Lib.hid (fun hs => by
          rw [← HA.out, insOuter_go _ _ _ _ _ hlt, ← HI.out, insInner_stop _ _ _ _ (by rcases hs with h | h; exact .inl (by omega); exact .inr h)])
        rcases Nat.eq_zero_or_pos k with hz | hz
        · subst hz
          go_wp2_with fail
          go_quiet (fail)
          go_wp2_with fail
          exact ⟨⟨i + 1, dk, by omega, by go_num, hdk, HP, Lib.hid (OUT.out (.inl (by first | rfl | trivial))), Lib.hid (unRow_drewN HR.out _)⟩, by simp [intOf]; omega⟩
        obtain ⟨j, hj⟩ : ∃ j, k = j + 1 := ⟨k - 1, by omega⟩
        subst hj
        have hpl : (pick xs dk).length = N := by rw [pick_length]; exact hdk
        obtain ⟨hg, _, hcells, hfz⟩ := row_cellsU HR.out.1
        obtain ⟨hci, hci1, hci2, hci3, hci4⟩ := hcells (j + 1) (by omega)
        obtain ⟨hcj, hcj1, hcj2, hcj3, hcj4⟩ := hcells j (by omega)
        have l1 : dk[j + 1]! < xs.length := by rw [← HN.out]; exact HP.out (j + 1) (by omega)
        have l2 : dk[j]! < xs.length := by rw [← HN.out]; exact HP.out j (by omega)
        have ei : (pick xs dk)[j + 1]'(by omega) = xs[dk[j + 1]!] := by
          have := pick_get xs dk (j + 1) (by omega)
          rw [List.getElem?_eq_getElem (by omega)] at this
          rw [Option.some.inj this]
          simp [List.getD, l1]
        have ej : (pick xs dk)[j]'(by omega) = xs[dk[j]!] := by
          have := pick_get xs dk j (by omega)
          rw [List.getElem?_eq_getElem (by omega)] at this
          rw [Option.some.inj this]
          simp [List.getD, l2]
        rw [ei] at hci hci1 hci2 hci3 hci4
        rw [ej] at hcj hcj1 hcj2 hcj3 hcj4
        have hL : lt dk[j + 1]! dk[j]! = Go.Sort.ltStr (nameC cs xs[dk[j + 1]!].1) (nameC cs xs[dk[j]!].1) := by
          rw [HLT.out]
          unfold ltK
          rw [keyAt_lt _ _ l1, keyAt_lt _ _ l2]
        have hcx := HCL.out _ (List.getElem_mem l1)
        have hcy := HCL.out _ (List.getElem_mem l2)
        have hfi := hfz ((j + 1) * 5)
        have hfj := hfz (j * 5)
        have hfi1 := hfz ((j + 1) * 5 + 1)
        have hfj1 := hfz (j * 5 + 1)
        have hfi2 := hfz ((j + 1) * 5 + 2)
        have hfj2 := hfz (j * 5 + 2)
        have hfi3 := hfz ((j + 1) * 5 + 3)
        have hfj3 := hfz (j * 5 + 3)
        have hfi4 := hfz ((j + 1) * 5 + 4)
        have hfj4 := hfz (j * 5 + 4)
        unfold slV at hci4 hcj4
        have HSW := Lib.hid (pick_swp xs dk (j + 1) j (by omega) (by omega))
        have gx : xs.getD dk[j + 1]! default = xs[dk[j + 1]!] := by simp [List.getD, l1]
        have gy : xs.getD dk[j]! default = xs[dk[j]!] := by simp [List.getD, l2]
        rw [gx, gy] at HSW
        clear gx gy ei ej hcells hfz
        generalize xs[dk[j + 1]!] = X at *
        generalize xs[dk[j]!] = Y at *
        obtain ⟨x0, x1, x2, x3, x4⟩ := X
        obtain ⟨y0, y1, y2, y3, y4⟩ := Y
        dsimp only at hci hci1 hci2 hci3 hci4 hcj hcj1 hcj2 hcj3 hcj4 hcx hcy hL
        obtain ⟨ax, hax⟩ : ∃ ax : Nat, x0 = ax := ⟨x0.toNat, by omega⟩
        obtain ⟨ay, hay⟩ : ∃ ay : Nat, y0 = ay := ⟨y0.toNat, by omega⟩
        subst hax
        subst hay
        have axl : ax < cs.length := by omega
        have ayl : ay < cs.length := by omega
        have hDr := Kd.C_below HD.out HR.out.2
        obtain ⟨ad, rfl, hnx, _, _⟩ := cls_at hDr ax axl
        obtain ⟨ad', had, hny, _, _⟩ := cls_at hDr ay ayl
        cases had
        clear hDr
        have pj : (((j + 1 : Nat) : Int)) - 1 = (j : Int) := by omega
        have pk : (0 : Int) < ((j + 1 : Nat) : Int) := by omega
        have p0 : (0 : Int) ≤ j := by omega
        have p1 : (0 : Int) ≤ ((j + 1 : Nat) : Int) := by omega
        have p2 : ((j + 1 : Nat) : Int) < (N : Int) := by omega
        have p3 : (j : Int) < (N : Int) := by omega
        have p4 : (ax : Int) < (cs.length : Int) := by omega
        have p5 : (ay : Int) < (cs.length : Int) := by omega
        have p6 : (0 : Int) ≤ (ax : Int) := by omega
        have p7 : (0 : Int) ≤ (ay : Int) := by omega
        have e1 : nameC cs (ax : Int) = cs[ax].1.data.toList := by unfold nameC; simp [List.getD, axl]
        have e2 : nameC cs (ay : Int) = cs[ay].1.data.toList := by unfold nameC; simp [List.getD, ayl]
        rw [e1, e2] at hL
        clear e1 e2
        generalize cs[ax].1 = S1 at *
        generalize cs[ay].1 = S2 at *
        obtain ⟨B, hB⟩ : ∃ B : Bool, Op.bytesLess S1.toList S2.toList = B := ⟨_, rfl⟩
        have hBk : lt dk[j + 1]! dk[j]! = B := by
          rw [hL, ← hB, bytesLess_eq, ByteArray.toList_eq, ByteArray.toList_eq]
          rfl
        have HBK := Lib.hid hBk
        have HPL := Lib.hid hpl
        clear hBk hL hpl l1 l2
        cases B
        · go_wp2_with fail
          go_quiet (fail)
          go_wp2_with fail
          exact ⟨⟨i + 1, dk, by omega, by go_num, hdk, HP, Lib.hid (OUT.out (.inr HBK.out)), Lib.hid (unRow_drewN HR.out _)⟩, by simp [intOf]; omega⟩
        · go_wp2_with fail
          go_quiet (fail)
          have HR' : Hid (UnRow g c1 w.heap.size w (wr.drewN nq) (pick xs dk)) := Lib.hid (unRow_drewN HR.out nq)
          clear hB HR hnx hny
          replace hci : (wr.drewN nq).cell? _ = _ := hci
          replace hci1 : (wr.drewN nq).cell? _ = _ := hci1
          replace hci2 : (wr.drewN nq).cell? _ = _ := hci2
          replace hci3 : (wr.drewN nq).cell? _ = _ := hci3
          replace hci4 : (wr.drewN nq).cell? _ = _ := hci4
          replace hcj : (wr.drewN nq).cell? _ = _ := hcj
          replace hcj1 : (wr.drewN nq).cell? _ = _ := hcj1
          replace hcj2 : (wr.drewN nq).cell? _ = _ := hcj2
          replace hcj3 : (wr.drewN nq).cell? _ = _ := hcj3
          replace hcj4 : (wr.drewN nq).cell? _ = _ := hcj4
          replace hfi : (wr.drewN nq).frozen? _ = _ := hfi
          replace hfi1 : (wr.drewN nq).frozen? _ = _ := hfi1
          replace hfi2 : (wr.drewN nq).frozen? _ = _ := hfi2
          replace hfi3 : (wr.drewN nq).frozen? _ = _ := hfi3
          replace hfi4 : (wr.drewN nq).frozen? _ = _ := hfi4
          replace hfj : (wr.drewN nq).frozen? _ = _ := hfj
          replace hfj1 : (wr.drewN nq).frozen? _ = _ := hfj1
          replace hfj2 : (wr.drewN nq).frozen? _ = _ := hfj2
          replace hfj3 : (wr.drewN nq).frozen? _ = _ := hfj3
          replace hfj4 : (wr.drewN nq).frozen? _ = _ := hfj4
          generalize wr.drewN nq = wd at *
          go_wp2_with fail
          go_region
          go_wp2_with fail
          have h1 := R_setU HR'.out.1 (j + 1) (by rw [HPL.out]; omega) ((ay : Int), y1, y2, y3, y4)
          have h2 := R_setU h1 j (by rw [List.length_set, HPL.out]; omega) ((ax : Int), x1, x2, x3, x4)
          refine ⟨⟨j, Go.Sort.swp dk (j + 1) j, by omega, rfl, by rw [Go.Sort.size_swp]; exact hdk, Lib.hid (fun q hq => ?_), Lib.hid ?_, Lib.hid ⟨?_, below_drew ((((((((((HR'.out.2.setCell hg _).setCell hg _).setCell hg _).setCell hg _).setCell hg _).setCell hg _).setCell hg _).setCell hg _).setCell hg _).setCell hg _)⟩⟩, by simp [intOf]⟩
          · by_cases q1 : q = j + 1
            · subst q1; rw [Go.Sort.swp_left _ _ _ (by omega) (by omega)]; exact HP.out j (by omega)
            · by_cases q2 : q = j
              · subst q2; rw [Go.Sort.swp_right _ _ _ (by omega)]; exact HP.out (q + 1) (by omega)
              · rw [Go.Sort.swp_other _ _ _ _ q1 q2]; exact HP.out q hq
          · rw [← HI.out, insInner_go lt 0 (j + 1) dk (by omega) HBK.out]
            rfl
          · rw [HSW.out, List.length_set, List.length_set]
            exact Kd.R_below h2 (below_drew (Below.refl _ _))
    · go_wp2_with fail
      go_ret
      obtain rfl : i = N := by omega
      have h := HR.out.1
      have e : d = stab lt i := by rw [← ins_zero, ← HA.out, insOuter_stop _ _ _ _ _ (Nat.lt_irrefl _)]
      have e2 : pick xs d = sortK (fun x : ChU => nameC cs x.1) xs := by rw [e, HLT.out]; unfold sortK; rw [← HN.out]
      rw [pick_length, hd, e2] at h
      exact ⟨_, rfl, h, HR.out.2⟩
end Go.Proofs.YteoljiclmhmbnaaDoor.Tx

/-
  laws.byName told of entries; a record is put behind records.
-/
set_option linter.unusedVariables false
set_option linter.unusedSimpArgs false
namespace Go.Proofs.YteoljiclmhmbnaaDoor.Tx
open Go.RowKit Go.Proofs.YteoljiclmhmbnaaDoorW.PrintWords Go.Proofs.YteoljiclmhmbnaaDoor.K

theorem name_eq {cs : List Cls} {i : Int} (h : 0 ≤ i ∧ i < cs.length) : ((cs.map (fun x : Cls => x.1)).getD i.toNat default).data.toList = nameC cs i := by
  have hj : i.toNat < cs.length := by omega
  unfold nameC
  simp [List.getD, hj]
theorem byNameU_any (A B : Option Addr) (c c' : Nat) (xs : List Un) (cs : List Cls) (w : World) (hc : xs.length ≤ c) (hC : kUn.C w A xs.length xs) (hD : kCls.C w B cs.length cs) (hcl : ∀ x ∈ xs, 0 ≤ x.1 ∧ x.1 < cs.length) (hl : xs.length ≤ 100000) :
    Calls Tryd.prog 35 #[.slice A xs.length c, .slice B cs.length c'] w fun e w' => ∃ A' c'', e = .returned (.slice A' xs.length c'') ∧ kUn.C w' A' xs.length (sortK (nameU (cs.map (·.1))) xs) ∧ Below w.heap.size w w' := by
  obtain ⟨ps, h1, h2, h3⟩ := to_pairsU hC
  have hpl : (ps.map (·.2)).length = xs.length := by rw [← h1]; simp
  have hk1 : ∀ p ∈ ps, p.1.1 = p.2.1 := fun p hp => un_key (h3 p hp)
  have hm1 : ∀ p ∈ ps, 0 ≤ p.2.1 ∧ p.2.1 < cs.length := fun p hp => by
    rw [← hk1 p hp]
    exact hcl p.1 (by rw [← h1]; exact List.mem_map.2 ⟨p, hp, rfl⟩)
  have hb := byName_any A B c c' (ps.map (·.2)) cs w (by rw [hpl]; exact hc) (by rw [hpl]; exact h2) hD (fun x hx => by
    obtain ⟨p, hp, rfl⟩ := List.mem_map.1 hx
    exact hm1 p hp) (by rw [hpl]; omega)
  rw [hpl] at hb
  refine hb.mono ?_
  rintro e w' ⟨v, rfl, hR, hB⟩
  rw [sortK_map (fun p : Un × ChU => p.2) (fun x : ChU => nameC cs x.1) (fun p => nameC cs p.2.1) ps (fun _ _ => rfl)] at hR
  obtain ⟨A', c'', rfl, hl1, hU⟩ := of_pairsU hR (fun p hp => kUn.K_below hB (h3 p ((sortK_perm _ _).mem_iff.1 hp)))
  have hsl : (sortK (fun p : Un × ChU => nameC cs p.2.1) ps).length = xs.length := by rw [sortK_length, ← h1]; simp
  have he : (sortK (fun p : Un × ChU => nameC cs p.2.1) ps).map (·.1) = sortK (nameU (cs.map (·.1))) xs := by
    rw [← h1, sortK_map (fun p : Un × ChU => p.1) (nameU (cs.map (·.1))) (fun p => nameC cs p.2.1) ps (fun p hp => ?_)]
    unfold nameU
    rw [hk1 p hp]
    exact name_eq (hm1 p hp)
  rw [hsl, he] at hU
  exact ⟨A', c'', by rw [hsl], hU, hB⟩
/-- What the law's guards give. -/
theorem okU_of {cs : List Cls} {us : List Un} (h : PlainU cs.length us) : ∀ u ∈ us, OkU (cs.map (·.1)) u := fun u hu => by
  obtain ⟨h1, h2, h3, h4, h5⟩ := h.1 u hu
  exact ⟨by rw [List.length_map]; exact h1, h2, h3, h4, h5⟩
theorem tCls_strs {w' w0 : World} {cs : List Cls} {v : Value} (h : w'.ownsRow w0.heap.size 9 1 v cs.length ((cs.map (·.1)).map Value.string)) : ∃ A c, v = .slice A cs.length c ∧ Kd.string.C w' A cs.length (cs.map (·.1)) := by
  have hR : Kd.string.R 9 w' w0.heap.size (fun _ => True) v (cs.map (·.1)) := Kd.R_of_own (by rw [List.length_map]; exact h) (fun _ _ => trivial)
  obtain ⟨A, c, rfl, _, hC⟩ := Kd.R_reads hR
  rw [List.length_map] at hC
  exact ⟨A, c, by rw [List.length_map], hC⟩
end Go.Proofs.YteoljiclmhmbnaaDoor.Tx
