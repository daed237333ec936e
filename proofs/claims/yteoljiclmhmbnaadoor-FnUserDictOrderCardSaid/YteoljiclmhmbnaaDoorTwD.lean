/-
  The walk of add: a subtree is built.
-/
import Derived.Test.YteoljiclmhmbnaaDoorTwC
import Derived.Maps.OwnOps
import Derived.Test.YteoljiclmhmbnaaDoorTwB
import Derived.Deep.QuietTactic
import Derived.BigQuiet
import Derived.WalkLawsBesides
import Derived.IntWalk
import Derived.Deep.RegionLaw
import Derived.Defers
import Derived.Recover
set_option linter.unusedVariables false
set_option linter.unusedSimpArgs false
namespace Go.Proofs.YteoljiclmhmbnaaDoor.Da
open Go.RowKit Go.ChangeShapes Go.Proofs.YteoljiclmhmbnaaDoor.K Go.Proofs.YteoljiclmhmbnaaDoorW.PrintWords

def Brs (bb : Nat) (bs : List Nat) (w : World) : Prop := ∀ j (h : j < bs.length), w.cell? ⟨bb, j, none⟩ = some (.int .i64 (bs[j] : Int))
def Kws (kb : Nat) (keys : List ByteArray) (w : World) : Prop := ∀ j (h : j < keys.length), w.cell? ⟨kb, j, none⟩ = some (.string keys[j])
def Ids (ib : Nat) (ids : List Int) (w : World) : Prop := ∀ j (h : j < ids.length), w.cell? ⟨ib, j, none⟩ = some (.int .i64 ids[j])
theorem cell_keep {b : Nat} {w w' : World} (hb : w'.heap[b]? = w.heap[b]?) (j : Nat) : w'.cell? ⟨b, j, none⟩ = w.cell? ⟨b, j, none⟩ := World.cell?_of_block (w := w) (a := ⟨b, j, none⟩) hb
theorem Brs.keep {b : Nat} {bs : List Nat} {w w' : World} (h : Brs b bs w) (hb : w'.heap[b]? = w.heap[b]?) : Brs b bs w' := fun j hj => (cell_keep hb j).trans (h j hj)
theorem Kws.keep {b : Nat} {bs : List ByteArray} {w w' : World} (h : Kws b bs w) (hb : w'.heap[b]? = w.heap[b]?) : Kws b bs w' := fun j hj => (cell_keep hb j).trans (h j hj)
theorem Ids.keep {b : Nat} {bs : List Int} {w w' : World} (h : Ids b bs w) (hb : w'.heap[b]? = w.heap[b]?) : Ids b bs w' := fun j hj => (cell_keep hb j).trans (h j hj)

/-- What the first loop has collected: the characters in a row of their own, the groups in a map. -/
def charsK (keys : List ByteArray) (i : Nat) (bs : List Nat) : List Nat := charsF (bs.map fun j => chAt (kAt keys j) i)
def CharR (base : Nat) (cs : List Nat) (v : Value) (w : World) : Prop := w.ownsRow base tU8 1 v cs.length (cs.map fun (c : Nat) => Value.int .u8 c)
theorem CharR.below {base : Nat} {cs : List Nat} {v : Value} {w w' : World} (h : CharR base cs v w) (hb : Below w.heap.size w w') : CharR base cs v w' := own_keep h (fun k hk => hb.block k (World.ownsRow.lt h k hk).2)
theorem Grps.below {base bm n i : Nat} {keys : List ByteArray} {bs : List Nat} {w w' : World} (h : Grps base bm n keys i bs w) (hb : Below w.heap.size w w') : Grps base bm n keys i bs w' :=
  h.keep (fun es c hm => (hb.block bm (lt_of_heap hm)).trans hm) (fun j cur hm => (hb.block j (lt_of_heap hm)).trans hm)
theorem Grps.grown {base base' bm n i m : Nat} {keys : List ByteArray} {bs : List Nat} {w w' : World} {v : Value} {xs : List Value} (h : Grps base bm n keys i bs w) (hg : w.grownBy w' v.ownBlock) (ho : w.ownsRow base' tU8 1 v m xs) : Grps base bm n keys i bs w' :=
  h.keep (fun es c hm => (hg.block bm (lt_of_heap hm) (fun e => by obtain ⟨cur, hc⟩ := own_heap ho e.symm; rw [hm] at hc; cases hc)).trans hm)
    (fun j cur hm => (hg.block j (lt_of_heap hm) (fun e => by obtain ⟨cur', hc⟩ := own_heap ho e.symm; exact typ_ne hm hc (by decide) rfl)).trans hm)
theorem Grps.mono {base bm n n' i : Nat} {keys : List ByteArray} {bs : List Nat} {w : World} (h : Grps base bm n keys i bs w) (hn : n ≤ n') : Grps base bm n' keys i bs w := by
  obtain ⟨D, ⟨es, clock, hb, F, hs, hD, hbb, hlen, hap⟩, h2, h3⟩ := h
  exact ⟨D, ⟨es, clock, hb, F, Nat.le_trans hs hn, hD, hbb, fun x hx zs ho => Nat.le_trans (hlen x hx zs ho) hn, hap⟩, h2, h3⟩
theorem chAt_le (s : ByteArray) (i : Nat) : chAt s i ≤ 255 := by
  unfold chAt
  split
  · have := (s.get! i).toNat_lt; omega
  · exact Nat.zero_le _
theorem chAt_cell (W : World) (s : ByteArray) {i : Nat} (h : i < s.size) : (Lib.bytesWorld W tU8 s).cell? ⟨W.heap.size, i, none⟩ = some (.int .u8 (chAt s i : Int)) := by
  rw [Lib.bytesWorld_cell W tU8 s i h]
  have h' : i < s.data.size := h
  unfold chAt
  rw [if_pos h]
  simp only [ByteArray.get!, List.getD_eq_getElem?_getD, Array.getElem?_toList]
  rw [getElem!_pos s.data i h', Array.getElem?_eq_getElem h']
  rfl
theorem charsK_eq (keys : List ByteArray) (ids : List Int) (i : Nat) (bs : List Nat) : charsK keys i bs = chars (ksOf keys ids i bs) := by
  unfold charsK chars ksOf
  rw [List.map_map]
  congr 1
  refine List.map_congr_left fun j _ => ?_
  simp [head_ks]
theorem Grps.kp {base bm n i dp g : Nat} {keys : List ByteArray} {bs : List Nat} {A : DA} {w w' : World} (h : Grps base bm n keys i bs w) (a : Arr dp g A w) (k : Kp dp g w w') : Grps base bm n keys i bs w' :=
  h.keep (fun es c hm => (k.block bm (lt_of_heap hm) (fun e => by rw [e, a.var] at hm; cases hm) (fun e => by rw [e, a.arr] at hm; cases hm)).trans hm)
    (fun j cur hm => (k.block j (lt_of_heap hm) (typ_ne hm a.var (by decide)) (typ_ne hm a.arr (by decide))).trans hm)
theorem shape_ints {w : World} {base e n : Nat} {q : IntKind} {v : Value} {zs : List Int} (h : w.ownsInts base e q v zs) (hn : zs.length = n) : ∃ A c, v = .slice A n c := by
  rcases h.1.2 with ⟨h1, h0⟩ | ⟨g', cap, cur, h1, _⟩
  · exact ⟨none, 0, by rw [h1, ← hn, h0]⟩
  · exact ⟨_, _, by rw [h1, hn]⟩
theorem cost_without_le (done : List Nat) (ks : Ks) : cost (without done ks) ≤ cost ks := by
  induction ks with
  | nil => exact Nat.le_refl _
  | cons x r ih =>
    obtain ⟨s, id⟩ := x
    cases s with
    | nil => simp [without, cost]; exact ih
    | cons a s =>
      simp only [without]
      split <;> simp [cost] <;> omega
theorem ks_firstE {keys : List ByteArray} {ids : List Int} {i : Nat} {bs : List Nat} (hs : Srt (ksOf keys ids i bs)) (hf : firstE (ksOf keys ids i bs) ≠ none) (h0 : 0 < bs.length) : firstE (ksOf keys ids i bs) = some (idAt ids bs[0]) := by
  obtain ⟨id, r, h1, h2⟩ := firstE_head hs hf
  rw [h2]
  cases bs with
  | nil => simp at h0
  | cons j r' =>
    simp only [ksOf, List.map_cons, List.cons.injEq, Prod.mk.injEq] at h1
    rw [← h1.1.2]
    rfl
theorem zeroInts (w : World) : (zeroValue 37).run Tryd.prog w = .ok (.slice none 0 0) w := by kernel_rfl
theorem infoInt : (Tryd.prog.info? tInt).map (fun i => (i.zero, i.size, i.bytes)) = some (some (.int .i64 0), 1, 8) := by kernel_rfl

set_option maxHeartbeats 2000000 in
set_option maxRecDepth 100000 in
theorem add_any (dp kb ib ck ci : Nat) (keys : List ByteArray) (ids : List Int) (hkl : keys.length ≤ 2147483647) (hil : ids.length = keys.length) (hids : ∀ x ∈ ids, 0 ≤ x ∧ x ≤ 2147483647) (hks : ∀ s ∈ keys, s.size ≤ 2147483647) :
    ∀ n, ∀ (p i g bb cb : Nat) (bs : List Nat) (A : DA) (M : Nat) (w : World), cost (ksOf keys ids i bs) + 1 ≤ n → bs ≠ [] → bs.length ≤ 2147483647 → (∀ j ∈ bs, j < keys.length) → Srt (ksOf keys ids i bs) → Byt (ksOf keys ids i bs) → i ≤ 2147483647 →
      Arr dp g A w → Inv A M → M + 256 * (cost (ksOf keys ids i bs) + 1) ≤ 268435456 → Par A → Bare A p → (p = 0 → M = 0 ∧ firstE (ksOf keys ids i bs) = none) →
      Brs bb bs w → Kws kb keys w → Ids ib ids w → bb ≠ dp → bb ≠ g → kb ≠ dp → kb ≠ g → ib ≠ dp → ib ≠ g → bb < w.heap.size → kb < w.heap.size → ib < w.heap.size →
      Calls Tryd.prog 110 #[.pointer (some ⟨dp, 0, none⟩), .int .i64 p, .int .i64 i, .slice (some ⟨bb, 0, none⟩) bs.length cb, .slice (some ⟨kb, 0, none⟩) keys.length ck, .slice (some ⟨ib, 0, none⟩) ids.length ci] w fun e w' =>
        e = .returned (.tuple #[]) ∧ ∃ A' g', Arr dp g' A' w' ∧ Inv A' (M + 256 * (cost (ksOf keys ids i bs) + 1)) ∧ Ext (fun j => j = p) A A' ∧ Tr A' (fun j => ¬ Us A j ∧ j ≠ 0) p (ksOf keys ids i bs) ∧ (g' = g ∨ w.heap.size ≤ g') ∧ Kp dp g w w' := by
  intro n
  induction n with
  | zero => intros; omega
  | succ n ih =>
    intro p i g bb cb bs A M w hn hbne hbl hbk hsrt hbyt hi31 ha hi hM hpar hbare hp0 hbr hkw hid hbd hbg hkd hkg hidp hidg hbs hksz hisz
    have IH := Lib.hid ih
    have HN := Lib.hid hn
    have HBK := Lib.hid hbk
    have HSRT := Lib.hid hsrt
    have HBYT := Lib.hid hbyt
    have HA := Lib.hid ha
    have HI := Lib.hid hi
    have HM := Lib.hid hM
    have HPAR := Lib.hid hpar
    have HBARE := Lib.hid hbare
    have HP0 := Lib.hid hp0
    have HBR := Lib.hid hbr
    have HKW := Lib.hid hkw
    have HID := Lib.hid hid
    have HIL := Lib.hid hil
    have HIDS := Lib.hid hids
    have HKS := Lib.hid hks
    have HBNE := Lib.hid hbne
    clear ih hn hbk hsrt hbyt ha hi hM hpar hbare hp0 hbr hkw hid hil hids hks hbne
    have hmm := @run_makeMap Tryd.prog
    have key := @Maps.int_keyed Tryd.prog tU8 .u8 Tryd.underlying5
    obtain ⟨i0, hi0, hz0, hz1, hz2⟩ := info_parts infoInt
    go_enter Tryd.func110, Tryd.ntmps110
    go_wp2_with fail
    go_loopw [12, 25] (fun v jv wr => ∃ k : Nat, k ≤ bs.length ∧ jv = .int .i64 k ∧ Hid (CharR w.heap.size (charsK keys i (bs.take k)) v wr) ∧ Hid (Grps (w.heap.size + 1) w.heap.size k keys i (bs.take k) wr) ∧ Hid (Below w.heap.size w wr) ∧ Hid (w.heap.size + 1 ≤ wr.heap.size)) (fun _ jv _ => bs.length - (intOf jv).toNat)
    case atStart =>
      refine ⟨0, Nat.zero_le _, rfl, Lib.hid (World.ownsRow_nil _ _ _ _), Lib.hid ⟨.map [], World.ownsGroups_made _ _ _ _ _, Maps.isMap_empty, ?_⟩, Lib.hid ((Below.refl _ _).alloc (Nat.le_refl _) _), Lib.hid (by simp)⟩
      intro ch _
      split <;> rfl
    case round =>
      obtain ⟨k, hk, rfl, HCR, HGR, HBL, HSZ⟩ := hrel
      by_cases hlt : k < bs.length
      · obtain ⟨j, hj⟩ : ∃ j, j = bs[k] := ⟨_, rfl⟩
        have hjl : j < keys.length := by rw [hj]; exact HBK.out _ (List.getElem_mem _)
        obtain ⟨s, hs⟩ : ∃ s, s = kAt keys j := ⟨_, rfl⟩
        have hcj : wr.cell? ⟨bb, k, none⟩ = some (.int .i64 (j : Int)) := by
          rw [hj]
          exact (HBR.out.keep (HBL.out.block bb hbs)) k hlt
        have hcs : wr.cell? ⟨kb, j, none⟩ = some (.string s) := by
          rw [hs, kAt_eq hjl]
          exact (HKW.out.keep (HBL.out.block kb hksz)) j hjl
        have hss : s.size ≤ 2147483647 := by rw [hs, kAt_eq hjl]; exact HKS.out _ (List.getElem_mem _)
        have hcv : ∀ W : World, (convert 9 103 (.string s)).run Tryd.prog W = .ok (.slice (some ⟨W.heap.size, 0, none⟩) s.size (grownCap W s.size 0 tU8)) (Lib.bytesWorld W tU8 s) := print_bytes 9 103 5 Tryd.underlying9 Tryd.underlying103 Tryd.underlying5 s
        have HJ := Lib.hid hj
        have HS := Lib.hid hs
        clear hj hs
        go_upto_if 37 with fail
        obtain ⟨w1, hw1⟩ : ∃ w1, w1 = Lib.bytesWorld wr tU8 s := ⟨_, rfl⟩
        have hb1 : Below wr.heap.size wr w1 := by rw [hw1]; exact bytes_below (Below.refl _ _) (Nat.le_refl _) _ _
        have hch : i < s.size → w1.cell? ⟨wr.heap.size, i, none⟩ = some (.int .u8 (chAt s i : Int)) := fun h => by rw [hw1]; exact chAt_cell wr s h
        rw [← hw1]
        have HCR1 := Lib.hid (HCR.out.below hb1)
        have HGR1 := Lib.hid (HGR.out.below hb1)
        have HBL1 := Lib.hid (HBL.out.trans (hb1.mono HBL.out.size))
        have HSZ1 : Hid (w.heap.size + 1 ≤ w1.heap.size) := Lib.hid (Nat.le_trans HSZ.out hb1.size)
        have HCH := Lib.hid hch
        clear hw1 hb1 hch hcj hcs hcv HCR HGR HBL HSZ
        go_cut [17] from 26 to 70 (fun v wx => v = .int .u8 (chAt s i : Int) ∧ w1 = wx)
        case first =>
          by_cases his : i < s.size
          · have hch := HCH.out his
            have hd : decide (s.size ≤ i) = false := by simpa using his
            go_wp2_with fail
            go_meet
            exact ⟨rfl, rfl⟩
          · have hd : decide (s.size ≤ i) = true := by simpa using his
            have h0 : chAt s i = 0 := by rw [chAt, if_neg his]
            go_wp2_with fail
            go_meet
            exact ⟨by rw [h0]; rfl, rfl⟩
        case rest =>
          obtain ⟨rfl, rfl⟩ := hcut
          refine (‹∀ (a : Act) (w : World), Code.wp _ _ _ a w → _›) _ _ ?_
          refine wp_seq_k (fun K hK => ?_)
          obtain ⟨c, hc⟩ : ∃ c, c = chAt s i := ⟨_, rfl⟩
          have hc255 : c ≤ 255 := by rw [hc]; exact chAt_le _ _
          rw [← hc]
          have HC := Lib.hid hc
          obtain ⟨cs, hcs⟩ : ∃ cs, cs = charsK keys i (bs.take k) := ⟨_, rfl⟩
          have hcr := HCR1.out
          rw [← hcs] at hcr
          have HCS := Lib.hid hcs
          have HCR2 := Lib.hid hcr
          have hcl : cs.length ≤ 2147483647 := by
            have : ∀ l : List Nat, (charsF l).length ≤ l.length := fun l => by
              refine snoc_ind (P := fun l => (charsF l).length ≤ l.length) (by simp [charsF]) ?_ l
              intro l x ih
              rw [charsF_snoc]
              unfold push
              split
              · simp; omega
              · simp; omega
            have h1 := this ((bs.take k).map fun j => chAt (kAt keys j) i)
            rw [hcs]
            unfold charsK
            simp only [List.length_map, List.length_take] at h1
            omega
          clear hc hcs hcr HCR1
          obtain ⟨i8, hi8, hy0, hy1, hy2⟩ := info_parts (show (Tryd.prog.info? tU8).map (fun i => (i.zero, i.size, i.bytes)) = some (some (.int .u8 0), 1, 1) by kernel_rfl)
          go_cut [12, 18] from 26 to 70 (fun v _ wx => Hid (CharR w.heap.size (push cs c) v wx) ∧ Hid (Grps (w.heap.size + 1) w.heap.size k keys i (bs.take k) wx) ∧ Hid (Below w.heap.size w wx) ∧ Hid (w.heap.size + 1 ≤ wx.heap.size))
          case first =>
            obtain ⟨Ac, capc, rfl⟩ : ∃ Ac capc, u12 = .slice Ac cs.length capc := by
              rcases HCR2.out.2 with ⟨h, h0⟩ | ⟨g', cap, cur, h, _⟩
              · exact ⟨none, 0, by rw [h, h0]⟩
              · exact ⟨_, _, h⟩
            have HO : Hid (w1.ownsRow w.heap.size tU8 1 (.slice Ac cs.length capc) (cs.map fun (c : Nat) => Value.int .u8 c).length (cs.map fun (c : Nat) => Value.int .u8 c)) := Lib.hid (by rw [List.length_map]; exact HCR2.out)
            have HAp : Hid (Grps (w.heap.size + 1) w.heap.size k keys i (bs.take k) (w1.alloc (.cells #[.int .u8 (c : Int)] tU8))) := Lib.hid (HGR1.out.below ((Below.refl _ _).alloc (Nat.le_refl _) _))
            have HAb : Hid (Below w.heap.size w (w1.alloc (.cells #[.int .u8 (c : Int)] tU8))) := Lib.hid (HBL1.out.alloc HBL1.out.size _)
            have HAl : Hid (((cs.map fun (c : Nat) => Value.int .u8 c).length + 1) * 1 ≤ 140737488355328) := Lib.hid (by rw [List.length_map]; omega)
            have HAs : Hid (w.heap.size ≤ (w1.alloc (.cells #[.int .u8 (c : Int)] tU8)).heap.size) := Lib.hid (by rw [size_alloc]; have := HSZ1.out; omega)
            by_cases hce : cs.length = 0
            · have HCE := Lib.hid hce
              have hd : ((cs.length : Int) == 0) = true := by simp [hce]
              clear hce
              go_wp2_with (at_builtin; refine app1 (w0 := w) w.heap.size rfl _ _ 103 tU8 (.int .u8 0) 1 rfl Tryd.underlying103 (by kernel_rfl) rfl (by decide) (.slice Ac cs.length capc) (cs.map fun (c : Nat) => Value.int .u8 c) (.int .u8 c) w1.heap.size rfl rfl (cell_new0 _ _ _) rfl (HO.out.alloc _) HAb.out HAs.out HAl.out ?_)
              intro v1 w2 hown1 hb2 hgr hat
              have hpush : push cs c = cs ++ [c] := by
                have : cs = [] := List.eq_nil_of_length_eq_zero HCE.out
                subst this
                rfl
              have HX1 : Hid (CharR w.heap.size (push cs c) v1 w2) := Lib.hid (by rw [hpush]; unfold CharR; simpa using hown1)
              have HX2 := Lib.hid (HAp.out.grown hgr (HO.out.alloc _))
              have HX3 := Lib.hid hb2
              have HX4 : Hid (w.heap.size + 1 ≤ w2.heap.size) := Lib.hid (by have := hgr.size; rw [size_alloc] at this; have := HSZ1.out; omega)
              clear hown1 hb2 hgr hat hpush
              go_wp2_with fail
              go_meet
              exact ⟨HX1, HX2, HX3, HX4⟩
            · obtain ⟨m, hm⟩ : ∃ m, cs.length = m + 1 := ⟨cs.length - 1, by omega⟩
              have hm1 : (cs.length : Int) - 1 = (m : Int) := by omega
              have hml : m < cs.length := by omega
              have hd : ((cs.length : Int) == 0) = false := by rw [beq_eq_false_iff_ne]; omega
              obtain ⟨gc, rfl⟩ : ∃ gc, Ac = some ⟨gc, 0, none⟩ := by
                rcases HO.out.2 with ⟨_, h0⟩ | ⟨g', cap, cur, h, _⟩
                · rw [List.length_map] at h0; omega
                · injection h with h1 _ _
                  exact ⟨g', h1⟩
              obtain ⟨y, hy⟩ : ∃ y, y = cs[m] := ⟨_, rfl⟩
              have hcy : w1.cell? ⟨gc, m, none⟩ = some (.int .u8 (y : Int)) := by
                have hmm2 : m < cs.length * 1 := by omega
                have h1 := World.ownsRow.cellAt (size := 1) HCR2.out m hmm2
                rw [h1, hy]
                simp [hml]
              have hlast : cs.getLast? = some y := by
                rw [List.getLast?_eq_getElem?, hy, show cs.length - 1 = m by omega, List.getElem?_eq_getElem hml]
              have HLAST := Lib.hid hlast
              clear hm hce hy hlast
              by_cases hyc : y = c
              · have hne : ((y : Int) != (c : Int)) = false := by simp [hyc]
                have HYC := Lib.hid hyc
                clear hyc
                go_wp2_with fail
                go_meet
                refine ⟨Lib.hid ?_, HGR1, HBL1, HSZ1⟩
                rw [push, if_pos (by rw [HLAST.out, HYC.out])]
                exact HCR2.out
              · have hne : ((y : Int) != (c : Int)) = true := by rw [bne_iff_ne]; omega
                have HYC := Lib.hid hyc
                clear hyc
                go_wp2_with (at_builtin; refine app1 (w0 := w) w.heap.size rfl _ _ 103 tU8 (.int .u8 0) 1 rfl Tryd.underlying103 (by kernel_rfl) rfl (by decide) (.slice (some ⟨gc, 0, none⟩) cs.length capc) (cs.map fun (c : Nat) => Value.int .u8 c) (.int .u8 c) w1.heap.size rfl rfl (cell_new0 _ _ _) rfl (HO.out.alloc _) HAb.out HAs.out HAl.out ?_)
                intro v1 w2 hown1 hb2 hgr hat
                have hpush : push cs c = cs ++ [c] := by
                  rw [push, if_neg (by rw [HLAST.out]; intro e; injection e with e; exact HYC.out e)]
                have HX1 : Hid (CharR w.heap.size (push cs c) v1 w2) := Lib.hid (by rw [hpush]; unfold CharR; simpa using hown1)
                have HX2 := Lib.hid (HAp.out.grown hgr (HO.out.alloc _))
                have HX3 := Lib.hid hb2
                have HX4 : Hid (w.heap.size + 1 ≤ w2.heap.size) := Lib.hid (by have := hgr.size; rw [size_alloc] at this; have := HSZ1.out; omega)
                clear hown1 hb2 hgr hat hpush
                go_wp2_with fail
                go_meet
                exact ⟨HX1, HX2, HX3, HX4⟩
          case rest =>
            obtain ⟨HX1, HX2, HX3, HX4⟩ := hcut
            have hks2 : ksOf keys ids i bs = ksOf keys ids i (bs.take k) ++ ((bl s).drop i, idAt ids j) :: ksOf keys ids i (bs.drop (k + 1)) := by
              have h1 : bs = bs.take k ++ j :: bs.drop (k + 1) := by rw [HJ.out, ← List.drop_eq_getElem_cons hlt, List.take_append_drop]
              conv => lhs; rw [h1]
              simp only [ksOf, List.map_append, List.map_cons, HS.out]
            have hc0 : c = 0 ↔ s.size ≤ i := by
              rw [HC.out]
              constructor
              · intro h0
                refine Nat.le_of_not_lt fun hl => ?_
                have h1 := HBYT.out ((bl s).drop i, idAt ids j) (by rw [hks2]; simp) (s.get! i).toNat (by rw [bl_at s hl]; simp)
                rw [chAt, if_pos hl] at h0
                omega
              · intro h0
                rw [chAt, if_neg (by omega)]
            have htk : bs.take (k + 1) = bs.take k ++ [j] := by rw [HJ.out, List.take_succ_eq_append_getElem hlt]
            have HCK : Hid (charsK keys i (bs.take (k + 1)) = push cs c) := Lib.hid (by
              rw [htk, HCS.out, HC.out]
              unfold charsK
              rw [List.map_append, List.map_cons, List.map_nil, charsF_snoc, HS.out])
            have HTK := Lib.hid htk
            have HC0 := Lib.hid hc0
            clear hks2 hc0 htk HCR2 HGR1 HBL1 HSZ1 HCH
            by_cases hcz : c = 0
            · have hle := HC0.out.1 hcz
              have hd : ((c : Int) != 0) = false := by simp [hcz]
              have HGN : Hid (Grps (w.heap.size + 1) w.heap.size (k + 1) keys i (bs.take (k + 1)) wc) := Lib.hid (by
                obtain ⟨D, h1, h2, h3⟩ := HX2.out.mono (Nat.le_succ k)
                refine ⟨D, h1, h2, fun ch hch => ?_⟩
                rw [h3 ch hch, HTK.out, grp_skip (by rw [← HS.out]; exact hle)])
              clear hle hcz
              go_wp2_with fail
              exact ⟨⟨k + 1, by omega, by go_num, Lib.hid (by rw [HCK.out]; exact HX1.out), HGN, HX3, HX4⟩, by simp [intOf]; omega⟩
            · have hgt : i < s.size := Nat.lt_of_not_le fun h => hcz (HC0.out.2 h)
              have hd : ((c : Int) != 0) = true := by rw [bne_iff_ne]; omega
              have HGT := Lib.hid hgt
              have HCZ := Lib.hid hcz
              obtain ⟨D, hown, hism, hatD⟩ := HX2.out
              have HISM := Lib.hid hism
              have HATD := Lib.hid hatD
              have HOWN := Lib.hid hown
              have hwf : (Lit.int .u8 (c : Int)).wf = true := WalkArith.wf_u8 (by omega)
              have HKEY := Lib.hid (Maps.keyOf_int_mk (P := Tryd.prog) Tryd.underlying5 hwf)
              clear hgt hcz hism hatD hown hwf
              have hwi : (Lit.int .i64 (j : Int)).wf = true := WalkArith.wf_i64 (by omega)
              have HWI := Lib.hid hwi
              clear hwi
              go_wp2_with (first
                | (at_lookup; refine wpList_lookup_groups _ rfl _ _ 243 rfl tU8 37 tInt .i64 key Tryd.underlying243 (zeroInts _) (w.heap.size + 1) w.heap.size k _ rfl HOWN.out (by unfold maxLen; omega) _ _ rfl HKEY.out ?_; intro v zs hat hoi hzl hback)
                | (at_builtin; refine wpList_append_own_at _ rfl _ _ 37 rfl (w.heap.size + 1) tInt i0 (.int .i64 0) 1 8 Tryd.underlying37 hi0 hz0 hz1 hz2 rfl (by decide) _ _ _ rfl (hoi.1.alloc _) ⟨wc.heap.size, 0, none⟩ 1 1 [.int .i64 (j : Int)] rfl rfl (cell_one_new _ _ _) (ints_oneCell .i64 [(j : Int)]) (by unfold maxLen; omega) (by omega) (by have := HX4.out; simp; omega) ?_; intro v' w2 hown' hgrow hnil hloc)
                | (at_mapUpdate; refine wpList_mapUpdate_back _ rfl _ _ _ 243 rfl hback rfl rfl rfl ((World.grownBy_alloc _ _ _).trans hgrow) (hoi.appended hown' HWI.out) (by simp; omega) (hloc.imp id (fun h => ⟨_, h, by simp⟩)) ?_; intro w3 hown2 hgrow2))
              have hall := (World.grownBy_alloc wc _ _).trans hgrow
              have hz : zs = IntL (grp keys i c (bs.take k)) := by
                have h1 := HATD.out c hc255
                rw [if_neg HCZ.out] at h1
                exact found_zs hoi (h1.symm.trans hat)
              refine ⟨⟨k + 1, by omega, by go_num, Lib.hid ?_, Lib.hid ?_, Lib.hid (HX3.out.groups hoi hall hgrow2 HX3.out.size (Nat.le_succ _) (Nat.le_refl _)), Lib.hid (Nat.le_trans HX4.out (Nat.le_trans hall.size hgrow2.size))⟩, by simp [intOf]; omega⟩
              · rw [HCK.out]
                have h1 : w2.ownsRow w.heap.size tU8 1 _ _ _ := World.ownsRow.kept HX1.out hall (by
                  cases hv : (u12 : Value).ownBlock with
                  | none => exact .inl rfl
                  | some gx =>
                    refine .inr (fun e => ?_)
                    obtain ⟨c1, h1⟩ := own_heap HX1.out hv
                    obtain ⟨c2, h2⟩ := own_heap hoi.1 e.symm
                    exact typ_ne h1 h2 (by decide) rfl)
                refine World.ownsRow.kept h1 hgrow2 ?_
                cases hv : (u12 : Value).ownBlock with
                | none => exact .inl rfl
                | some gx =>
                  refine .inr (fun e => ?_)
                  injection e with e
                  obtain ⟨c1, h2⟩ := own_heap h1 hv
                  obtain ⟨es, clock, h3, _⟩ := HOWN.out
                  have h4 : w2.heap[w.heap.size]? = some (.map es clock) := (hall.block _ (lt_of_heap h3) (fun e' => by
                    obtain ⟨c2, h5⟩ := own_heap hoi.1 e'.symm
                    rw [h3] at h5
                    cases h5)).trans h3
                  rw [e, h4] at h2
                  cases h2
              · refine ⟨_, hown2, HISM.out.put _ _, ?_⟩
                rw [HTK.out]
                exact grp_put HISM.out HATD.out (by have := HCZ.out; omega) hc255 ⟨by rw [← HS.out]; exact HGT.out, by rw [← HS.out, HC.out, chAt, if_pos HGT.out]⟩ hz (hoi.appended hown' HWI.out)
      · obtain rfl : k = bs.length := by omega
        have hcr := HCR.out
        have hgr := HGR.out
        rw [List.take_length] at hcr hgr
        have HCR2 := Lib.hid hcr
        have HGR2 := Lib.hid hgr
        clear hcr hgr HCR HGR
        obtain ⟨ks, hks⟩ : ∃ ks, ks = ksOf keys ids i bs := ⟨_, rfl⟩
        obtain ⟨cs, hcs⟩ : ∃ cs, cs = chars ks := ⟨_, rfl⟩
        have hck : charsK keys i bs = cs := by rw [hcs, hks]; exact charsK_eq _ _ _ _
        have hksne : ks ≠ [] := by
          rw [hks]
          intro h
          have := congrArg List.length h
          simp [ksOf] at this
          exact HBNE.out this
        have hcr2 := HCR2.out
        rw [hck] at hcr2
        have hsrt := HSRT.out
        have hbyt := HBYT.out
        have hm := HM.out
        have hp0 := HP0.out
        have hn' := HN.out
        rw [← hks] at hsrt hbyt hm hp0 hn'
        have hasc : cs.Pairwise (· < ·) := by rw [hcs]; exact chars_asc hsrt
        have h255 : ∀ c ∈ cs, c ≤ 255 := by rw [hcs]; exact chars_le hbyt
        have hclen : cs.length ≤ 256 := asc_len hasc 255 h255
        have hcne : 0 < cs.length := by rw [hcs]; exact chars_ne hksne
        obtain ⟨gc, capc, rfl⟩ : ∃ gc capc, u12 = .slice (some ⟨gc, 0, none⟩) cs.length capc := by
          rcases hcr2.2 with ⟨_, h0⟩ | ⟨g', cap, cur, h, _⟩
          · omega
          · exact ⟨_, _, h⟩
        obtain ⟨curc, hgc⟩ := own_heap hcr2 rfl
        have ha1 : Arr dp g A wr := HA.out.keep (HBL.out.block dp (lt_of_heap HA.out.var)) (HBL.out.block g (lt_of_heap HA.out.arr))
        have hchs : Chars gc cs wr := fun j hj => by
          have hj1 : j < cs.length * 1 := by omega
          rw [World.ownsRow.cellAt (size := 1) hcr2 j hj1]
          simp [hj]
        have hgd : gc ≠ dp := typ_ne hgc ha1.var (by decide)
        have hgg : gc ≠ g := typ_ne hgc ha1.arr (by decide)
        have hgl := lt_of_heap hgc
        have h0 : p = 0 → M = 0 ∧ 1 ≤ cs[0]! := by
          intro hp
          obtain ⟨h1, h2⟩ := hp0 hp
          refine ⟨h1, ?_⟩
          have hm0 : cs[0]! ∈ cs := by rw [getElem!_pos cs 0 hcne]; exact List.getElem_mem _
          rcases Nat.eq_zero_or_pos cs[0]! with hz | hz
          · rw [hz] at hm0
            rw [hcs] at hm0
            exact absurd h2 ((chars_zero hbyt).1 hm0)
          · exact hz
        have HSEEK := Lib.hid (seek_any dp g gc capc A M p cs wr ha1 HI.out (by omega) HBARE.out.1 hchs hgd hgg hgl hcne (by omega) hasc h255 h0)
        have HKSE := Lib.hid hks
        have HCSE := Lib.hid hcs
        have HSR := Lib.hid hsrt
        have HBY := Lib.hid hbyt
        have HMM := Lib.hid hm
        have HNN := Lib.hid hn'
        have HASC := Lib.hid hasc
        have H255 := Lib.hid h255
        have HA1 := Lib.hid ha1
        have HCHS := Lib.hid hchs
        have HGC := Lib.hid hgc
        clear hks hcs hck hksne hcr2 hsrt hbyt hm hp0 hn' hasc h255 ha1 hchs h0 hgc
        go_wp2_with fail
        refine HSEEK.out.mono ?_
        rintro e w2 ⟨rfl, A1, g1, B, ha2, hi2, hop, hg1, hkp⟩
        have HA2 := Lib.hid ha2
        have HI2 := Lib.hid hi2
        have HOP := Lib.hid hop
        have HG1 := Lib.hid hg1
        have HKP := Lib.hid hkp
        clear ha2 hi2 hop hg1 hkp HSEEK
        go_wp2_with fail
        obtain ⟨wo, rfl⟩ : ∃ wo : World, wo = wr := ⟨_, rfl⟩
        have HFE : Hid (∀ h0 : 0 < bs.length, firstE ks ≠ none → firstE ks = some (idAt ids bs[0])) := Lib.hid (by
          intro h0 hf
          have h1 := HSR.out
          rw [HKSE.out] at h1 hf ⊢
          exact ks_firstE h1 hf h0)
        have HU1 : Hid (∀ c ∈ cs, Us A1 (B + c)) := Lib.hid (fun c hc => ⟨(HOP.out.kids c hc).1, .inr (by have := (HOP.out.kids c hc).2.1; omega)⟩)
        have HPU : Hid (Us A1 p) := Lib.hid (HOP.out.ext.us p HBARE.out.1)
        have hB1 : 1 ≤ B := HOP.out.pos
        have HPNE : Hid (∀ c ∈ cs, p ≠ B + c) := Lib.hid (fun c hc e => (HOP.out.kids c hc).2.2.1 (e ▸ HBARE.out.1))
        go_loopw [77] (fun jv wr => ∃ (k : Nat) (A2 : DA) (g2 : Nat), k ≤ cs.length ∧ jv = .int .i64 k ∧ Hid (Arr dp g2 A2 wr) ∧ Hid (Kids A1 A2 B ks (cs.take k)) ∧ Hid (Inv A2 (M + 256 + 256 * (cost ks - cost (without (cs.take k) ks)))) ∧ Hid (g2 = g ∨ wo.heap.size ≤ g2) ∧ Hid (Kp dp g wo wr)) (fun jv _ => cs.length - (intOf jv).toNat)
        case atStart =>
          refine ⟨0, A1, g1, Nat.zero_le _, rfl, HA2, Lib.hid ?_, Lib.hid ?_, HG1, HKP⟩
          · rw [List.take_zero]; exact kids_start _ _ _
          · rw [List.take_zero, cost_nil, Nat.sub_self]; exact HI2.out
        case round =>
          obtain ⟨k, A2, g2, hk, rfl, HA3, HKD, HIV, HG2, HK3⟩ := hrel
          by_cases hlt : k < cs.length
          · obtain ⟨ch, hch⟩ : ∃ ch, ch = cs[k] := ⟨_, rfl⟩
            have hmem : ch ∈ cs := by rw [hch]; exact List.getElem_mem _
            have hch255 : ch ≤ 255 := H255.out ch hmem
            have hcc : wr.cell? ⟨gc, k, none⟩ = some (.int .u8 (ch : Int)) := by
              rw [hch]
              exact (HCHS.out.keep (HK3.out.block gc hgl hgd hgg)) k hlt
            have htk : cs.take (k + 1) = cs.take k ++ [ch] := by rw [hch, List.take_succ_eq_append_getElem hlt]
            have hni : ch ∉ cs.take k := by
              have h1 := HASC.out.sublist (List.take_sublist (k + 1) cs)
              rw [htk] at h1
              intro hm
              have := (List.pairwise_append.1 h1).2.2 ch hm ch (by simp)
              omega
            have hdm : ∀ c ∈ cs.take k, c ∈ cs := fun c hc => List.mem_of_mem_take hc
            have hbp : A2.b p = B := (HKD.out.ext.b p HPU.out (by rintro ⟨c, hc, e⟩; exact HPNE.out c (hdm c hc) e)).trans HOP.out.base
            have hpn : p < A2.n := (HKD.out.ext.us p HPU.out).1
            have hsz2 := HIV.out.size
            obtain ⟨q, hqe⟩ : ∃ q, q = B + ch := ⟨_, rfl⟩
            have huq : Us A2 q := by rw [hqe]; exact HKD.out.ext.us _ (HU1.out ch hmem)
            have hqn : q < A2.n := huq.1
            have hqz : (B : Int) + (ch : Int) = (q : Int) := by omega
            have hBb : (B : Int) ≤ 536870918 := by omega
            have hv2 : wr.cell? ⟨dp, 0, none⟩ = some (.slice (some ⟨g2, 0, none⟩) A2.n A2.n) := HA3.out.cv
            have hb2 : wr.cell? ⟨g2, p * 2, none⟩ = some (.int .i32 (B : Int)) := by rw [← hbp]; exact HA3.out.cb hpn
            have HGR3 := Lib.hid (HGR2.out.kp HA1.out HK3.out)
            obtain ⟨D, hown, hism, hatD⟩ := HGR3.out
            have HATD := Lib.hid hatD
            have HOWN := Lib.hid hown
            have hwf : (Lit.int .u8 (ch : Int)).wf = true := WalkArith.wf_u8 (by omega)
            have HKEY := Lib.hid (Maps.keyOf_int_mk (P := Tryd.prog) Tryd.underlying5 hwf)
            have HQE := Lib.hid hqe
            have HTK := Lib.hid htk
            have HNI := Lib.hid hni
            have HDM := Lib.hid hdm
            have HUQ := Lib.hid huq
            have HMEM := Lib.hid hmem
            clear hch hmem htk hni hdm hbp hqe huq hism hatD hown hwf
            by_cases hc0 : ch = 0
            · have HC0 := Lib.hid hc0
              clear hc0
              have HLK : Hid (D.atKey (.int .u8 (ch : Int)) .nil = grpD []) := Lib.hid (by
                have := HATD.out ch hch255
                rwa [if_pos HC0.out] at this)
              have hb0 : 0 < bs.length := List.length_pos_iff.2 HBNE.out
              obtain ⟨j0, hj0⟩ : ∃ j0, j0 = bs[0] := ⟨_, rfl⟩
              have hj0l : j0 < ids.length := by rw [HIL.out, hj0]; exact HBK.out _ (List.getElem_mem _)
              obtain ⟨idv, hidv⟩ : ∃ idv, idv = ids[j0] := ⟨_, rfl⟩
              have hidr : 0 ≤ idv ∧ idv ≤ 2147483647 := by rw [hidv]; exact HIDS.out _ (List.getElem_mem _)
              have hidr1 := hidr.1
              have hidr2 := hidr.2
              have hcb0 : wr.cell? ⟨bb, 0, none⟩ = some (.int .i64 (j0 : Int)) := by
                rw [hj0]
                exact (HBR.out.keep ((HK3.out.block bb (Nat.lt_of_lt_of_le hbs HBL.out.size) hbd hbg).trans (HBL.out.block bb hbs))) 0 hb0
              have hcid : wr.cell? ⟨ib, j0, none⟩ = some (.int .i64 idv) := by
                rw [hidv]
                exact (HID.out.keep ((HK3.out.block ib (Nat.lt_of_lt_of_le hisz HBL.out.size) hidp hidg).trans (HBL.out.block ib hisz))) j0 hj0l
              obtain ⟨x0, hx0⟩ : ∃ x0, wr.cell? ⟨g2, q * 2, none⟩ = some (.int .i32 x0) := ⟨_, HA3.out.cb hqn⟩
              have hfq := HA3.out.f (q * 2)
              have hil0 : ((ids.length : Int) == 0) = false := by rw [beq_eq_false_iff_ne]; omega
              have hj0i : (j0 : Int) < (ids.length : Int) := by omega
              have hb0i : (0 : Int) < (bs.length : Int) := by omega
              have HJ0 := Lib.hid hj0
              have HIDV := Lib.hid hidv
              clear hj0 hidv hidr
              go_wp2_with (at_lookup; refine wpList_lookup_groups _ rfl _ _ 243 rfl tU8 37 tInt .i64 key Tryd.underlying243 (zeroInts _) (w.heap.size + 1) w.heap.size bs.length D rfl HOWN.out (by unfold maxLen; omega) _ _ rfl HKEY.out ?_; intro v zs hat hoi hzl hback; obtain ⟨Av, cv, rfl⟩ := shape_ints hoi (n := 0) (by rw [found_zs hoi (HLK.out.symm.trans hat)]; rfl); clear hat hoi hzl hback)
              go_region
              have HA4 : Hid (Arr dp g2 (setB A2 q (-idv)) (wr.setCell ⟨g2, q * 2, none⟩ (.int .i32 (-idv))).drew) := Lib.hid (by
                have := HA3.out.set_b hqn (-idv)
                exact ⟨this.var, this.arr⟩)
              have HK4 : Hid (Kp dp g wo (wr.setCell ⟨g2, q * 2, none⟩ (.int .i32 (-idv))).drew) := Lib.hid (HK3.out.trans ((Kp.refl dp g2 wr).set (.inr (.inl rfl)) _) HG2.out).drew
              have HKD4 : Hid (Kids A1 (setB A2 q (-idv)) B ks (cs.take (k + 1))) := Lib.hid (by
                have h0 := HC0.out
                have hm := HMEM.out
                have hn := HNI.out
                have hq := HQE.out
                have h1 := HFE.out hb0 ((chars_zero HBY.out).1 (by rw [← HCSE.out, ← h0]; exact hm))
                have hu := HU1.out ch hm
                rw [h0] at hm hn hq hu
                rw [HTK.out, h0, hq, HIDV.out]
                have hj : j0 < ids.length := hj0l
                rw [← HJ0.out, idAt_eq hj] at h1
                exact kids_leaf HKD.out hB1 hu h1 (fun c hc => HU1.out c (HDM.out c hc)) hn)
              have HIV4 : Hid (Inv (setB A2 q (-idv)) (M + 256 + 256 * (cost ks - cost (without (cs.take (k + 1)) ks)))) := Lib.hid (by
                have e : without (cs.take (k + 1)) ks = without (cs.take k) ks := by
                  rw [HTK.out, HC0.out]
                  exact without_snoc0 _ _ HBY.out
                rw [e]
                have hq := HQE.out
                exact setB_inv HIV.out HUQ.out (by omega) (by omega))
              go_wp2_with fail
              exact ⟨⟨k + 1, setB A2 q (-idv), g2, by omega, by go_num, HA4, HKD4, HIV4, HG2, HK4⟩, by simp [intOf]; omega⟩
            · have hc1 : 1 ≤ ch := by omega
              have HLK : Hid (D.atKey (.int .u8 (ch : Int)) .nil = grpD (IntL (grp keys i ch bs))) := Lib.hid (by
                have := HATD.out ch hch255
                rwa [if_neg hc0] at this)
              obtain ⟨bs', hbs'⟩ : ∃ bs', bs' = grp keys i ch bs := ⟨_, rfl⟩
              have htl : tails ch ks = ksOf keys ids (i + 1) bs' := by rw [HKSE.out, hbs']; exact tails_ks _ _ _ _ _
              have htne : tails ch ks ≠ [] := (chars_kid hc1).1 (by rw [← HCSE.out]; exact HMEM.out)
              have hbne' : bs' ≠ [] := by
                intro h
                rw [h] at htl
                exact htne htl
              have hb0' : 0 < bs'.length := List.length_pos_iff.2 hbne'
              have hbl' : bs'.length ≤ bs.length := by rw [hbs']; exact List.length_filter_le _ _
              have hz0 : ((bs'.length : Int) == 0) = false := by rw [beq_eq_false_iff_ne]; omega
              have hi1 : i + 1 ≤ 2147483647 := by
                obtain ⟨j, hj⟩ := List.exists_mem_of_length_pos hb0'
                rw [hbs'] at hj
                obtain ⟨h1, h2⟩ := List.mem_filter.1 hj
                have h3 := (of_decide_eq_true h2).1
                have h4 := HBK.out j h1
                rw [kAt_eq h4] at h3
                have := HKS.out _ (List.getElem_mem h4)
                omega
              obtain ⟨i1, hi1e⟩ : ∃ i1, i1 = i + 1 := ⟨_, rfl⟩
              have hiz : (i : Int) + 1 = (i1 : Int) := by omega
              have hi1b : i1 ≤ 2147483647 := by omega
              rw [← hi1e] at htl
              clear hi1 hi1e
              have HBS := Lib.hid hbs'
              have HTL := Lib.hid htl
              have HTN := Lib.hid htne
              have HBN' := Lib.hid hbne'
              clear hbs' htl htne hbne' hc0
              go_upto_if 96 with (at_lookup; refine wpList_lookup_groups _ rfl _ _ 243 rfl tU8 37 tInt .i64 key Tryd.underlying243 (zeroInts _) (w.heap.size + 1) w.heap.size bs.length D rfl HOWN.out (by unfold maxLen; omega) _ _ rfl HKEY.out ?_; intro v zs hat hoi hzl hback; obtain ⟨Av, cv, rfl⟩ := shape_ints hoi (n := bs'.length) (by rw [found_zs hoi (HLK.out.symm.trans hat), IntL_length, HBS.out]); clear hat hoi hzl hback)
              go_wp2_with (at_lookup; refine wpList_lookup_groups _ rfl _ _ 243 rfl tU8 37 tInt .i64 key Tryd.underlying243 (zeroInts _) (w.heap.size + 1) w.heap.size bs.length D rfl HOWN.out (by unfold maxLen; omega) _ _ rfl HKEY.out ?_; intro v zs hat hoi hzl hback; obtain ⟨Av2, cv2, rfl⟩ := shape_ints hoi (n := bs'.length) (by rw [found_zs hoi (HLK.out.symm.trans hat), IntL_length, HBS.out]); have HOI := Lib.hid (And.intro hoi (found_zs hoi (HLK.out.symm.trans hat))); clear hat hoi hzl hback)
              obtain ⟨hoi, hzs⟩ := HOI.out
              obtain ⟨gv, rfl⟩ : ∃ gv, Av2 = some ⟨gv, 0, none⟩ := by
                rcases hoi.1.2 with ⟨h1, h0⟩ | ⟨g', cap, cur, h1, _⟩
                · rw [hzs, IntL_length, ← HBS.out] at h0; omega
                · injection h1 with h2 _ _
                  exact ⟨g', h2⟩
              obtain ⟨curv, hgv⟩ := own_heap hoi.1 rfl
              have hbrs : Brs gv bs' wr := fun j hj => by
                have hzl : zs.length = bs'.length := by rw [hzs, IntL_length, ← HBS.out]
                have h1 := hoi.1
                rw [hzl] at h1
                rw [World.ownsRow.cellAt (size := 1) h1 j (by omega), hzs, ← HBS.out]
                simp [IntL, hj]
              have hkw1 : Kws kb keys wr := HKW.out.keep ((HK3.out.block kb (Nat.lt_of_lt_of_le hksz HBL.out.size) hkd hkg).trans (HBL.out.block kb hksz))
              have hid1 : Ids ib ids wr := HID.out.keep ((HK3.out.block ib (Nat.lt_of_lt_of_le hisz HBL.out.size) hidp hidg).trans (HBL.out.block ib hisz))
              have hgo : ∀ b, b < w.heap.size → b ≠ g → b ≠ g2 := by
                intro b h1 h2 e
                rcases HG2.out with h3 | h3
                · exact h2 (e.trans h3)
                · have := HBL.out.size; omega
              have hcw : cost (without (cs.take (k + 1)) ks) + cost (tails ch ks) + (tails ch ks).length = cost (without (cs.take k) ks) := by
                rw [HTK.out]
                exact cost_without _ _ HNI.out _ hc1
              have hcl1 := cost_without_le (cs.take k) ks
              have htp : 0 < (tails ch ks).length := List.length_pos_iff.2 HTN.out
              have hmm := HMM.out
              have hnn := HNN.out
              have hcall := IH.out q i1 g2 gv cv2 bs' A2 (M + 256 + 256 * (cost ks - cost (without (cs.take k) ks))) wr (by rw [← HTL.out]; omega) HBN'.out (by omega)
                (fun j hj => by rw [HBS.out] at hj; exact HBK.out j (List.mem_filter.1 hj).1) (by rw [← HTL.out]; exact srt_tails HSR.out _) (by rw [← HTL.out]; exact byt_tails HBY.out _) hi1b HA3.out HIV.out (by rw [← HTL.out]; omega)
                ((HPAR.out.ext HOP.out.ext).ext HKD.out.ext) (by rw [HQE.out]; exact kids_bare HOP.out HKD.out HBARE.out.1 HPAR.out HMEM.out HDM.out HNI.out) (fun h => by have := HQE.out; omega)
                hbrs hkw1 hid1 (typ_ne hgv HA3.out.var (by decide)) (typ_ne hgv HA3.out.arr (by decide)) hkd (hgo kb hksz hkg) hidp (hgo ib hisz hidg) (lt_of_heap hgv) (Nat.lt_of_lt_of_le hksz (Nat.le_trans HBL.out.size HK3.out.size)) (Nat.lt_of_lt_of_le hisz (Nat.le_trans HBL.out.size HK3.out.size))
              have HCALL := Lib.hid hcall
              have HCW := Lib.hid hcw
              have HCL1 := Lib.hid hcl1
              have HTP := Lib.hid htp
              clear hcall hcw hcl1 htp hmm hnn hbrs hkw1 hid1 hgo hoi hzs hgv
              go_wp2_with fail
              refine HCALL.out.mono ?_
              rintro e w3 ⟨rfl, A3, g3, h1, h2, h3, h4, h5, h6⟩
              have HY1 := Lib.hid h1
              have HY2 : Hid (Inv A3 (M + 256 + 256 * (cost ks - cost (without (cs.take (k + 1)) ks)))) := Lib.hid (by
                rw [← HTL.out] at h2
                have hcw := HCW.out
                have hcl1 := HCL1.out
                have htp := HTP.out
                have hmm := HMM.out
                have := cost_without_le (cs.take (k + 1)) ks
                exact h2.mono (by omega) (by omega))
              have HY3 : Hid (Kids A1 A3 B ks (cs.take (k + 1))) := Lib.hid (by
                rw [HTK.out]
                rw [← HTL.out] at h4
                rw [HQE.out] at h3 h4
                exact kids_sub HKD.out hB1 (HU1.out ch HMEM.out) hc1 (fun c hc => HU1.out c (HDM.out c hc)) HNI.out h3 h4)
              have HY5 : Hid (g3 = g ∨ wo.heap.size ≤ g3) := Lib.hid (by
                rcases h5 with h | h
                · rw [h]; exact HG2.out
                · exact .inr (Nat.le_trans HK3.out.size h))
              have HY6 := Lib.hid (HK3.out.trans h6 HG2.out)
              clear h1 h2 h3 h4 h5 h6 HCALL
              go_wp2_with fail
              exact ⟨⟨k + 1, A3, g3, by omega, by go_num, HY1, HY3, HY2, HY5, HY6⟩, by simp [intOf]; omega⟩
          · obtain rfl : k = cs.length := by omega
            have hkd1 := HKD.out
            have hiv := HIV.out
            rw [List.take_length] at hkd1 hiv
            obtain ⟨hE, hT⟩ := kids_all HOP.out hkd1 HBARE.out (by rw [HCSE.out]; exact chars_zero HBY.out) (fun c hc => by rw [HCSE.out]; exact chars_kid hc)
            have HE := Lib.hid hE
            have HT := Lib.hid hT
            have hmm := HMM.out
            have HIF : Hid (Inv A2 (M + 256 * (cost ks + 1))) := Lib.hid (hiv.mono (by omega) (by omega))
            clear hkd1 hiv hE hT hmm
            go_wp2_with fail
            go_end0
            refine ⟨rfl, A2, g2, HA3.out, ?_, HE.out, ?_, ?_, ?_⟩
            · rw [← HKSE.out]; exact HIF.out
            · rw [← HKSE.out]; exact HT.out
            · exact HG2.out.imp id (fun h => Nat.le_trans HBL.out.size h)
            · exact (Kp.mk HBL.out.os HBL.out.tape HBL.out.output HBL.out.size (fun k h1 _ _ => HBL.out.block k h1) : Kp dp g w wo).trans HK3.out (.inl rfl)
end Go.Proofs.YteoljiclmhmbnaaDoor.Da

/-
  The walk of truncate.
-/
set_option linter.unusedVariables false
set_option linter.unusedSimpArgs false
namespace Go.Proofs.YteoljiclmhmbnaaDoor.Da
open Go.RowKit Go.Proofs.YteoljiclmhmbnaaDoor.K Go.Proofs.YteoljiclmhmbnaaDoorW.PrintWords

/-- The first m cells. -/
def cutA (A : DA) (m : Nat) : DA := ⟨m, A.b, A.c⟩
theorem pad_cut (A : DA) (m : Nat) : cellsOf (padA A m m) = cellsOf (cutA A m) := cells_ext rfl (fun i h => by have h' : i < m := h; show (if i < m then A.b i else 0) = _; rw [if_pos h']; rfl) (fun i h => by have h' : i < m := h; show (if i < m then A.c i else 0) = _; rw [if_pos h']; rfl)

set_option maxHeartbeats 1000000 in
set_option maxRecDepth 100000 in
theorem truncate_any (dp g : Nat) (A : DA) (u : Nat) (w : World) (ha : Arr dp g A w) (hn : A.n ≤ 536870918) (hu : u < A.n) (hcu : 0 ≤ A.c u) (hrc : ∀ i, i < A.n → -2147483648 ≤ A.c i ∧ A.c i ≤ 2147483647) :
    Calls Tryd.prog 111 #[.pointer (some ⟨dp, 0, none⟩)] w fun e w' => e = .returned (.tuple #[]) ∧ ∃ m g', Arr dp g' (cutA A m) w' ∧ m ≤ A.n ∧ u < m ∧ (∀ i, i < A.n → m ≤ i → A.c i < 0) ∧ (g' = g ∨ w.heap.size ≤ g') ∧ Kp dp g w w' := by
  have hv : w.cell? ⟨dp, 0, none⟩ = some (.slice (some ⟨g, 0, none⟩) A.n A.n) := ha.cv
  have HA := Lib.hid ha
  have HRC := Lib.hid hrc
  clear ha hrc
  go_enter Tryd.func111, Tryd.ntmps111
  go_wp2_with fail
  go_loop [2, 3] (fun sv iv => ∃ k m : Nat, k + m = A.n ∧ sv = .int .i64 m ∧ iv = .int .i64 k ∧ Hid (∀ i, i < A.n → m ≤ i → A.c i < 0)) (fun sv _ => (intOf sv).toNat)
  case atStart => exact ⟨0, A.n, by omega, rfl, rfl, Lib.hid (fun i h1 h2 => by omega)⟩
  case round =>
    obtain ⟨k, m, hkm, rfl, rfl, HN⟩ := hrel
    have hum : u < m := Nat.lt_of_not_le fun h => by have := HN.out u hu h; omega
    obtain ⟨m', hm'⟩ : ∃ m', m = m' + 1 := ⟨m - 1, by omega⟩
    have hlt : k < A.n := by omega
    have hidx : (A.n : Int) - (k : Int) - 1 = (m' : Int) := by omega
    have hsub : (m : Int) - 1 = (m' : Int) := by omega
    have hmn : m' < A.n := by omega
    have hmA : m ≤ A.n := by omega
    obtain ⟨x, hx⟩ : ∃ x, x = A.c m' := ⟨_, rfl⟩
    have hcx : w.cell? ⟨g, m' * 2 + 1, none⟩ = some (.int .i32 x) := by rw [hx]; exact HA.out.cc hmn
    have HX := Lib.hid hx
    have HKM := Lib.hid hkm
    have HM' := Lib.hid hm'
    clear hx hkm hm'
    by_cases hneg : x < 0
    · have hd : decide (x < 0) = true := by simpa using hneg
      have HN2 : Hid (∀ i, i < A.n → m' ≤ i → A.c i < 0) := Lib.hid (fun i h1 h2 => by
        by_cases h : i = m'
        · rw [h, ← HX.out]; exact hneg
        · exact HN.out i h1 (by have := HM'.out; omega))
      have hkm := HKM.out
      have hm' := HM'.out
      have HA1 : Hid (k + 1 + m' = A.n) := Lib.hid (by omega)
      clear hkm hm'
      go_wp2_with fail
      exact ⟨⟨k + 1, m', HA1.out, rfl, by go_num, HN2⟩, by have := HM'.out; simp [intOf]; omega⟩
    · have hd : decide (x < 0) = false := by simpa using hneg
      by_cases heq : m = A.n
      · have he : ((m : Int) == (A.n : Int)) = true := by simp [heq]
        have HE := Lib.hid heq
        clear heq
        go_wp2_with fail
        refine bodyPost_ret (v := .tuple #[]) (by simp [results, Tryd.results111, go_sem]) rfl ⟨rfl, A.n, g, HA.out, Nat.le_refl _, hu, fun i h1 h2 => by omega, .inl rfl, Kp.refl _ _ _⟩
      · have he : ((m : Int) == (A.n : Int)) = false := by rw [beq_eq_false_iff_ne]; omega
        have hmk := make_da m (by omega)
        clear heq
        go_upto_region 9 with fail
        generalize hw1 : World.alloc (World.alloc w _) _ = w1
        obtain ⟨q, hq⟩ : ∃ q, q = w.heap.size := ⟨_, rfl⟩
        have hdl := lt_of_heap HA.out.var
        have hgl := lt_of_heap HA.out.arr
        have B1 : w1.heap[q]? = some (.cells #[.slice (some ⟨q + 1, 0, none⟩) m m] tDA (0, 0)) := by subst hw1 hq; exact heap_old (heap_new _ _) _
        have B2 : w1.heap[q + 1]? = some (.cells (cellsOf (zeroA m)) tEl (0, 0)) := by
          subst hw1 hq
          have := heap_new (w.alloc (.cells #[.slice (some ⟨w.heap.size + 1, 0, none⟩) m m] tDA)) (.cells (cellsOf (zeroA m)) tEl)
          rw [size_alloc] at this
          exact this
        have A1 : Arr dp g A w1 := by subst hw1; exact (HA.out.alloc _).alloc _
        have K1 : Hid (Kp dp g w w1) := Lib.hid (by subst hw1; exact ((Kp.refl dp g w).alloc _).alloc _)
        have HQ := Lib.hid hq
        rw [← hq]
        have hqd : dp < q := by omega
        have hqg : g < q := by omega
        clear hw1 hmk hv hcx hdl hgl hq
        have hv : w1.cell? ⟨dp, 0, none⟩ = some (.slice (some ⟨g, 0, none⟩) A.n A.n) := A1.cv
        have hq1 : w1.cell? ⟨q, 0, none⟩ = some (.slice (some ⟨q + 1, 0, none⟩) m m) := by rw [cell_of_heap B1]; rfl
        have HB1 := Lib.hid B1
        have HB2 := Lib.hid B2
        have HA1 := Lib.hid A1
        have hmi : (m : Int) ≤ (A.n : Int) := by omega
        clear B1 B2 A1
        go_cut [48] from 40 to 48 (fun v wx => v = .int .i64 m ∧ Hid (wx.heap[q + 1]? = some (.cells (cellsOf (padA A m m)) tEl (0, 0))) ∧ Hid (Only (q + 1) w1 wx))
        case first =>
          go_region_law (refine step_copy_da rfl (.tmp 42) (.tmp 47) tDA tDA rfl tEl Tryd.underlying88 (by kernel_rfl) (q + 1) g m m m A.n rfl rfl A m m tEl tEl (0, 0) (Nat.min_self m).symm HB2.out HA1.out.arr hmA (Nat.le_refl _) ?_; intro w2 HG2 HO2)
          all_goals (go_wp2_with fail; go_meet; exact ⟨rfl, HG2, Lib.hid ⟨HO2.out.os, HO2.out.tape, HO2.out.output, HO2.out.size, HO2.out.block⟩⟩)
        case rest =>
          obtain ⟨rfl, HG2, HO2⟩ := hcut
          have A0 : Arr dp g A wc := HA1.out.keep (HO2.out.block dp (by omega)) (HO2.out.block g (by omega))
          have hc1 : wc.cell? ⟨dp, 0, none⟩ = some (.slice (some ⟨g, 0, none⟩) A.n A.n) := A0.cv
          have hf1 : wc.frozen? ⟨dp, 0, none⟩ = false := A0.fv
          have hq2 : wc.cell? ⟨q, 0, none⟩ = some (.slice (some ⟨q + 1, 0, none⟩) m m) := by rw [cell_of_heap ((HO2.out.block q (by omega)).trans HB1.out)]; rfl
          have HA0 := Lib.hid A0
          clear hv hq1 A0
          go_wp2
          go_end0
          refine ⟨rfl, m, q + 1, ⟨?_, ?_⟩, hmA, hum, HN.out, .inr (by rw [← HQ.out]; omega), ?_⟩
          · rw [heap_set HA0.out.var]; rfl
          · rw [heap_set_ne (by omega), HG2.out, pad_cut]
          · exact ((K1.out.only HO2.out (.inr (.inr (by rw [← HQ.out]; omega)))).set (p := ⟨dp, 0, none⟩) (.inl rfl) _)
end Go.Proofs.YteoljiclmhmbnaaDoor.Da

/-
  Small functions of the library: slices.Clone at []int, cmp.Less at string, slices.IsSorted at []string.
-/
set_option linter.unusedVariables false
set_option linter.unusedSimpArgs false
namespace Go.Proofs.YteoljiclmhmbnaaDoor.Da
open Go.RowKit Go.Proofs.YteoljiclmhmbnaaDoor.K Go.Proofs.YteoljiclmhmbnaaDoorW.PrintWords

/-- Go's order of texts. -/
def ltB (a b : ByteArray) : Bool := Op.bytesLess a.toList b.toList
set_option maxHeartbeats 400000 in
theorem nan_any (a : ByteArray) (w : World) : Calls Tryd.prog 133 #[.string a] w fun e w' => e = .returned (.bool false) ∧ w = w' := by
  go_enter Tryd.func133, Tryd.ntmps133
  go_wp2
  go_ret
  exact ⟨by simp, rfl⟩
set_option maxHeartbeats 400000 in
theorem less_any (a b : ByteArray) (w : World) : Calls Tryd.prog 108 #[.string a, .string b] w fun e w' => e = .returned (.bool (ltB a b)) ∧ w = w' := by
  go_enter Tryd.func108, Tryd.ntmps108
  go_wp2_with fail
  refine (nan_any a w).mono ?_
  rintro e w1 ⟨rfl, rfl⟩
  go_wp2
  go_ret
  exact ⟨by simp [ltB], rfl⟩
set_option maxHeartbeats 400000 in
/-- A list that ascends is sorted. -/
theorem sorted_yes (A : Option Addr) (c : Nat) (xs : List ByteArray) (w : World) (hC : Kd.string.C w A xs.length xs) (hs : ∀ i (h : i + 1 < xs.length), ltB xs[i + 1] xs[i] = false) :
    Calls Tryd.prog 82 #[.slice A xs.length c] w fun e w' => e = .returned (.bool true) ∧ ∃ n, w' = w.drewN n := by
  have hm := hC.2.1
  have HC := Lib.hid hC
  have HS := Lib.hid hs
  clear hC hs
  go_enter Tryd.func82, Tryd.ntmps82
  go_wp2_with fail
  go_loopw [3] (fun i wr => ∃ z : Int, i = .int .i64 z ∧ z < xs.length ∧ -1 ≤ z ∧ Hid (∃ n, wr = w.drewN n)) (fun i _ => (intOf i + 1).toNat)
  case atStart => exact ⟨_, rfl, by omega, by omega, Lib.hid ⟨0, rfl⟩⟩
  case round =>
    obtain ⟨z, rfl, hz1, hz2, HW⟩ := hrel
    by_cases hz : 0 < z
    · obtain ⟨k, hk⟩ : ∃ k : Nat, z = ((k + 1 : Nat) : Int) := ⟨(z - 1).toNat, by omega⟩
      obtain ⟨k1, hk1⟩ : ∃ k1, k1 = k + 1 := ⟨_, rfl⟩
      rw [← hk1] at hk
      subst hk
      have hkl : k1 < xs.length := by omega
      have hsub : (k1 : Int) - 1 = (k : Int) := by omega
      have hkl0 : k < xs.length := by omega
      obtain ⟨ad, rfl, h1⟩ := strs_at HC.out k1 hkl
      obtain ⟨ad2, he, h2⟩ := strs_at HC.out k hkl0
      injection he with he
      subst he
      have h1' : wr.cell? (ad.add k1) = some (.string xs[k1]) := by obtain ⟨n, hn⟩ := HW.out; rw [hn]; exact h1
      have h2' : wr.cell? (ad.add k) = some (.string xs[k]) := by obtain ⟨n, hn⟩ := HW.out; rw [hn]; exact h2
      clear h1 h2
      have hlt : ltB xs[k1] xs[k] = false := by subst hk1; exact HS.out k (by omega)
      have HLT := Lib.hid hlt
      have HK := Lib.hid hk1
      clear hlt hk1
      have hwk : IntKind.i64.wrap (k : Int) = k := IntWalk.i64_in _ (by omega)
      go_wp2_with fail
      go_quiet ((go_at_call 108; exact Calls.quiet_of_same ((less_any _ _ _).mono (fun e W ⟨h1, h2⟩ => ⟨by rw [h1, HLT.out], h2.symm⟩))))
      go_wp2_with fail
      refine ⟨⟨_, rfl, by omega, by omega, Lib.hid (by obtain ⟨n, hn⟩ := HW.out; exact ⟨_, by rw [hn, World.drewN_drewN]⟩)⟩, ?_⟩
      have := HK.out
      simp [intOf]
      omega
    · go_wp2
      go_ret
      exact ⟨rfl, HW.out⟩
end Go.Proofs.YteoljiclmhmbnaaDoor.Da

/-
  The walk of BuildWithIDs, for keys that ascend.
-/
set_option linter.unusedVariables false
set_option linter.unusedSimpArgs false
namespace Go.Proofs.YteoljiclmhmbnaaDoor.Da
open Go.RowKit Go.ChangeShapes Go.Proofs.YteoljiclmhmbnaaDoor.K Go.Proofs.YteoljiclmhmbnaaDoorW.PrintWords

/-- A trie in memory: a double array that holds these keys. -/
structure Trie (g : Nat) (A : DA) (ks : Ks) (w : World) : Prop where
  arr : w.heap[g]? = some (.cells (cellsOf A) tEl (0, 0))
  n : A.n ≤ 536870918
  pos : 0 < A.n
  rb : ∀ i, i < A.n → -2147483647 ≤ A.b i ∧ A.b i ≤ 2147483647
  rc : ∀ i, i < A.n → -2147483647 ≤ A.c i ∧ A.c i ≤ 2147483647
  tr : Tr A (fun _ => True) 0 ks
/-- Keys that can be built. -/
structure Keys (keys : List ByteArray) (ids : List Int) : Prop where
  ne : keys ≠ []
  len : keys.length ≤ 4000
  il : ids.length = keys.length
  idr : ∀ x ∈ ids, 0 ≤ x ∧ x ≤ 2147483647
  sz : ∀ s ∈ keys, s.size ≤ 4000
  asc : ∀ i (h : i + 1 < keys.length), ltB keys[i + 1] keys[i] = false
  srt : Srt (ksOf keys ids 0 (List.range keys.length))
  byt : Byt (ksOf keys ids 0 (List.range keys.length))
  full : firstE (ksOf keys ids 0 (List.range keys.length)) = none
  cost : cost (ksOf keys ids 0 (List.range keys.length)) ≤ 8000

theorem Tr.cut {A : DA} {N : Nat → Prop} {m : Nat} (hm : m ≤ A.n) (hc : ∀ i, i < A.n → m ≤ i → A.c i < 0) {p : Nat} {ks : Ks} (h : Tr A N p ks) : Tr (cutA A m) N p ks := by
  induction h with
  | node p ks B hb hB leaf kid sub none0 none1 ih =>
    have lt : ∀ i, i < A.n → A.c i = (p : Int) → i < m := fun i h1 h2 => Nat.lt_of_not_le fun h3 => by have := hc i h1 h3; omega
    refine .node p ks B hb hB (fun id hid => ?_) (fun ch h1 h2 => ?_) ih (fun h0 h => none0 h0 ⟨Nat.lt_of_lt_of_le h.1 hm, h.2⟩) (fun ch h1 h2 h => none1 ch h1 h2 ⟨Nat.lt_of_lt_of_le h.1 hm, h.2⟩)
    · obtain ⟨g1, g2, g3⟩ := leaf id hid
      exact ⟨lt _ g1 g2, g2, g3⟩
    · obtain ⟨g1, g2, g3⟩ := kid ch h1 h2
      exact ⟨lt _ g1 g2, g2, g3⟩

theorem Tr.some_used {A : DA} {N : Nat → Prop} {p : Nat} {ks : Ks} (h : Tr A N p ks) (hne : ks ≠ []) (hby : Byt ks) : ∃ u, u < A.n ∧ 0 ≤ A.c u := by
  cases h with
  | node p ks B hb hB leaf kid sub none0 none1 =>
    cases hf : firstE ks with
    | some id =>
      obtain ⟨g1, g2, _⟩ := leaf id hf
      exact ⟨B, g1, by omega⟩
    | none =>
      cases ks with
      | nil => exact absurd rfl hne
      | cons x r =>
        obtain ⟨s, id⟩ := x
        cases s with
        | nil => cases hf
        | cons a s =>
          obtain ⟨g1, g2, _⟩ := kid a (hby _ (List.mem_cons_self ..) a (by simp)).1 (by simp [tails])
          exact ⟨_, g1, by omega⟩
/-- A row of the numbers from 0 on, while it is filled. -/
def fillA (N k : Nat) : Array Value := Array.ofFn (n := N) fun i => .int .i64 (if i.1 < k then (i.1 : Int) else 0)
theorem fill_zero (N : Nat) : madeCells #[.int .i64 0] N = fillA N 0 := by
  apply Array.ext
  · simp [fillA, size_madeCells]
  · intro j h1 h2
    simp [madeCells, fillA, Nat.mod_one]
theorem fill_at {N k j : Nat} (h : j < N) : (fillA N k)[j]? = some (.int .i64 (if j < k then (j : Int) else 0)) := by
  unfold fillA
  rw [Array.getElem?_ofFn, dif_pos h]
theorem fill_set {N k : Nat} (h : k < N) : (fillA N k).setIfInBounds k (.int .i64 (k : Int)) = fillA N (k + 1) := by
  apply Array.ext
  · simp [fillA]
  · intro j h1 h2
    have h3 : j < N := by simpa [fillA] using h2
    rw [Array.getElem_setIfInBounds (by simpa [fillA] using h3)]
    simp only [fillA, Array.getElem_ofFn]
    by_cases e : k = j
    · subst e; simp
    · rw [if_neg e]
      by_cases e2 : j < k
      · simp [e2, show j < k + 1 by omega]
      · simp [e2, show ¬ j < k + 1 by omega]
theorem ints_at {w : World} {A : Option Addr} {n : Nat} {k : IntKind} {xs : List Int} (h : (Kd.int k).C w A n xs) : ∀ j (hj : j < xs.length), ∃ ad, A = some ad ∧ w.cell? (ad.add j) = some (.int k xs[j]) := by
  intro j hj
  obtain ⟨ad, hA, hc⟩ := h.2.2 (by have := h.1; omega)
  obtain ⟨c, hl, hk, hcell⟩ := hc j xs[j] (List.getElem?_eq_getElem hj)
  have hk' : c = [.int k xs[j]] := hk
  subst hk'
  have := hcell 0 _ rfl
  have e : (Kd.int k).sz = 1 := rfl
  rw [e, Nat.mul_one, Nat.add_zero] at this
  exact ⟨ad, hA, this⟩
theorem kws_of {w : World} {kb : Nat} {keys : List ByteArray} (h : Kd.string.C w (some ⟨kb, 0, none⟩) keys.length keys) : Kws kb keys w := fun j hj => by
  obtain ⟨ad, h1, h2⟩ := strs_at h j hj
  injection h1 with h1
  subst h1
  rw [add_plain] at h2
  simpa using h2
theorem ids_of {w : World} {ib : Nat} {ids : List Int} (h : (Kd.int .i64).C w (some ⟨ib, 0, none⟩) ids.length ids) : Ids ib ids w := fun j hj => by
  obtain ⟨ad, h1, h2⟩ := ints_at h j hj
  injection h1 with h1
  subst h1
  rw [add_plain] at h2
  simpa using h2
theorem fresh_bare : Par (fresh 51200) ∧ Bare (fresh 51200) 0 := by
  refine ⟨fun i hi h0 => absurd (fresh_us _ i hi) h0, ⟨by decide, .inl rfl⟩, fun i hi h0 => absurd (fresh_us _ i hi) h0⟩

set_option maxHeartbeats 2000000 in
set_option maxRecDepth 100000 in
theorem build_any (kb ib ck ci : Nat) (keys : List ByteArray) (ids : List Int) (w : World) (hk : Keys keys ids)
    (hkC : Kd.string.C w (some ⟨kb, 0, none⟩) keys.length keys) (hiC : (Kd.int .i64).C w (some ⟨ib, 0, none⟩) ids.length ids) :
    Calls Tryd.prog 83 #[.slice (some ⟨kb, 0, none⟩) keys.length ck, .slice (some ⟨ib, 0, none⟩) ids.length ci] w fun e w' =>
      ∃ g A, e = .returned (.tuple #[.slice (some ⟨g, 0, none⟩) A.n A.n, .nilIface]) ∧ Trie g A (ksOf keys ids 0 (List.range keys.length)) w' ∧ w.heap.size ≤ g ∧ Below w.heap.size w w' := by
  have HK := Lib.hid hk
  have HKC := Lib.hid hkC
  have HIC := Lib.hid hiC
  have hlen := hk.len
  have hil := hk.il
  have hpos : 0 < keys.length := List.length_pos_iff.2 hk.ne
  have hkbl : kb < w.heap.size := World.block_lt_of_cell? w _ (kws_of hkC 0 hpos)
  have hibl : ib < w.heap.size := World.block_lt_of_cell? w _ (ids_of hiC 0 (by omega))
  clear hk hkC hiC
  go_enter Tryd.func83, Tryd.ntmps83
  go_wp2_with fail
  obtain ⟨w1, hw1⟩ : ∃ w1, w1 = (w.alloc (.cells #[] tEl)).alloc (.cells #[.slice (some ⟨w.heap.size, 0, none⟩) 0 0] tDA) := ⟨_, rfl⟩
  obtain ⟨dp, hdp⟩ : ∃ dp, dp = w.heap.size + 1 := ⟨_, rfl⟩
  have hd1 : w1.heap[dp]? = some (.cells #[.slice (some ⟨w.heap.size, 0, none⟩) 0 0] tDA (0, 0)) := by
    subst hw1 hdp
    have := heap_new (w.alloc (.cells #[] tEl)) (.cells #[.slice (some ⟨w.heap.size, 0, none⟩) 0 0] tDA)
    rw [size_alloc] at this
    exact this
  have hb1 : Below w.heap.size w w1 := by subst hw1; exact ((Below.refl _ _).alloc (Nat.le_refl _) _).alloc (by simp) _
  have hs1 : w1.heap.size = w.heap.size + 2 := by subst hw1; simp
  have HB1 := Lib.hid hb1
  have HS1 := Lib.hid hs1
  have HDP := Lib.hid hdp
  have HI := Lib.hid (init_any dp _ w1 hd1)
  rw [← hdp]
  refine (show Calls _ _ _ w1 _ → _ from fun h => by rw [← hw1]; exact h) ?_
  clear hw1 hdp hd1 hb1 hs1
  refine HI.out.mono ?_
  rintro e w2 ⟨rfl, g2, ha2, hg2, hk2⟩
  have HA2 := Lib.hid ha2
  have HG2 := Lib.hid hg2
  have HK2 := Lib.hid hk2
  have HB2 : Hid (Below w.heap.size w w2) := Lib.hid (HB1.out.trans (hk2.below (by have := HDP.out; omega) (by have := HS1.out; omega) (by have := HS1.out; omega)))
  clear ha2 hg2 hk2 HI
  have hne : ((keys.length : Int) != (ids.length : Int)) = false := by simp [hil]
  have hn0 : ((keys.length : Int) == 0) = false := by rw [beq_eq_false_iff_ne]; omega
  go_wp2_with fail
  have HKC2 := Lib.hid (Kd.C_below HKC.out HB2.out)
  have HIC2 := Lib.hid (Kd.C_below HIC.out HB2.out)
  refine (sorted_yes (some ⟨kb, 0, none⟩) ck keys w2 HKC2.out HK.out.asc).mono ?_
  rintro e w3 ⟨rfl, n3, hn3⟩
  have HA3 : Hid (Arr dp g2 (fresh 51200) w3) := Lib.hid (by rw [hn3]; exact ⟨HA2.out.var, HA2.out.arr⟩)
  have HB3 : Hid (Below w.heap.size w w3) := Lib.hid (by rw [hn3]; exact pw_below_drewN HB2.out n3)
  have HS3 : Hid (w.heap.size + 2 ≤ w3.heap.size) := Lib.hid (by rw [hn3]; have := HK2.out.size; have := HS1.out; show _ ≤ w2.heap.size; omega)
  clear hn3
  have hmk : ∀ W : World, (Instr.makeSlice 37 (.int .i64 keys.length) (.int .i64 keys.length)).run Tryd.prog W = .ok (.slice (some ⟨W.heap.size, 0, none⟩) keys.length keys.length) (W.alloc (.cells (madeCells #[.int .i64 0] keys.length) tInt)) :=
    run_make_row' (P := Tryd.prog) 37 3 (.int .i64 0) 8 Tryd.underlying37 (by kernel_rfl) rfl .i64 .i64 keys.length (by omega) (by omega)
  clear hne
  go_wp2_with fail
  obtain ⟨bq, hbq⟩ : ∃ bq, bq = w3.heap.size := ⟨_, rfl⟩
  obtain ⟨w4, hw4⟩ : ∃ w4, w4 = w3.alloc (.cells (madeCells #[.int .i64 0] keys.length) tInt) := ⟨_, rfl⟩
  have hq4 : w4.heap[bq]? = some (.cells (fillA keys.length 0) tInt (0, 0)) := by rw [hw4, hbq, ← fill_zero]; exact heap_new _ _
  have HA4 : Hid (Arr dp g2 (fresh 51200) w4) := Lib.hid (by rw [hw4]; exact HA3.out.alloc _)
  have HB4 : Hid (Below w.heap.size w w4) := Lib.hid (by rw [hw4]; exact HB3.out.alloc HB3.out.size _)
  have HQ4 := Lib.hid hq4
  have hws : w.heap.size ≤ bq := by rw [hbq]; exact HB3.out.size
  have HL4 : Hid (bq < w4.heap.size) := Lib.hid (lt_of_heap hq4)
  rw [← hbq, ← hw4]
  clear hw4 hq4 hbq hmk
  go_loopw [67, 13] (fun i _ wr => ∃ k : Nat, k ≤ keys.length ∧ i = .int .i64 k ∧ Hid (wr.heap[bq]? = some (.cells (fillA keys.length k) tInt (0, 0))) ∧ Hid (Arr dp g2 (fresh 51200) wr) ∧ Hid (Below w.heap.size w wr)) (fun i _ _ => keys.length - (intOf i).toNat)
  case atStart => exact ⟨0, Nat.zero_le _, rfl, HQ4, HA4, HB4⟩
  case round =>
    obtain ⟨k, hk, rfl, HQ, HA, HB⟩ := hrel
    by_cases hlt : k < keys.length
    · have hc := cell_of_heap HQ.out k
      rw [fill_at hlt] at hc
      have hf := frozen_of_heap HQ.out k
      have hdb : dp ≠ bq := typ_ne HA.out.var HQ.out (by decide)
      have hgb : g2 ≠ bq := typ_ne HA.out.arr HQ.out (by decide)
      go_wp2
      refine ⟨⟨k + 1, by omega, by go_num, Lib.hid ?_, Lib.hid ?_, Lib.hid (HB.out.setCell (p := ⟨bq, k, none⟩) hws _)⟩, by simp [intOf]; omega⟩
      · rw [heap_set HQ.out, fill_set hlt]
      · exact HA.out.keep (heap_set_ne hdb _ _) (heap_set_ne hgb _ _)
    · obtain rfl : k = keys.length := by omega
      have hcost := HK.out.cost
      have hadd := add_any dp kb ib ck ci keys ids (by omega) hil HK.out.idr (fun s hs => by have := HK.out.sz s hs; omega) _ 0 0 g2 bq keys.length (List.range keys.length) (fresh 51200) 0 wr (Nat.le_refl _) (by intro h; have h1 := congrArg List.length h; rw [List.length_range, List.length_nil] at h1; omega) (by rw [List.length_range]; omega)
        (fun j hj => by simpa using hj) HK.out.srt HK.out.byt (by omega) HA.out fresh_inv (by omega) fresh_bare.1 fresh_bare.2 (fun _ => ⟨rfl, HK.out.full⟩)
        (fun j hj => by rw [cell_of_heap HQ.out, fill_at (by simpa using hj)]; simp at hj; simp [hj])
        (kws_of (Kd.C_below HKC.out HB.out)) (ids_of (Kd.C_below HIC.out HB.out))
        (fun e => typ_ne HQ.out HA.out.var (by decide) e) (fun e => typ_ne HQ.out HA.out.arr (by decide) e) (by have := HDP.out; omega) (by have := HG2.out; have := HS1.out; omega) (by have := HDP.out; omega) (by have := HG2.out; have := HS1.out; omega) (lt_of_heap HQ.out) (Nat.lt_of_lt_of_le hkbl HB.out.size) (Nat.lt_of_lt_of_le hibl HB.out.size)
      rw [hil, List.length_range] at hadd
      have HADD := Lib.hid hadd
      clear hadd
      go_wp2_with fail
      refine HADD.out.mono ?_
      rintro e w5 ⟨rfl, A5, g5, h1, h2, h3, h4, h5, h6⟩
      obtain ⟨u, hu1, hu2⟩ := h4.some_used (by intro h; have h1 := congrArg List.length h; simp [ksOf] at h1; exact HK.out.ne h1) HK.out.byt
      have hn5 := h2.size
      have HT := Lib.hid (truncate_any dp g5 A5 u w5 h1 hn5 hu1 hu2 (fun i hi => by have := h2.rc i hi; omega))
      have HT5 := Lib.hid h4
      have HI5 := Lib.hid h2
      have HB5 : Hid (Below w.heap.size w w5) := Lib.hid (HB.out.trans (h6.below (by have := HDP.out; omega) (by have := HG2.out; have := HS1.out; omega) HB.out.size))
      have HG5 : Hid (w.heap.size ≤ g5) := Lib.hid (by
        rcases h5 with h | h
        · have := HG2.out; have := HS1.out; omega
        · exact Nat.le_trans HB.out.size h)
      clear h1 h2 h3 h4 h5 h6 hu1 hu2 HADD
      go_wp2_with fail
      refine HT.out.mono ?_
      rintro e w6 ⟨rfl, m, g6, k1, k2, k3, k4, k5, k6⟩
      have HA6 := Lib.hid k1
      have hc6 : w6.cell? ⟨dp, 0, none⟩ = some (.slice (some ⟨g6, 0, none⟩) m m) := k1.cv
      have HTR : Hid (Trie g6 (cutA A5 m) (ksOf keys ids 0 (List.range keys.length)) w6) := Lib.hid ⟨k1.arr, Nat.le_trans k2 hn5, by show 0 < m; omega, fun i hi => HI5.out.rb i (Nat.lt_of_lt_of_le hi k2), fun i hi => HI5.out.rc i (Nat.lt_of_lt_of_le hi k2), (HT5.out.new (fun _ _ => trivial)).cut k2 k4⟩
      have HB6 : Hid (Below w.heap.size w w6) := Lib.hid (HB5.out.trans (k6.below (by have := HDP.out; omega) HG5.out HB5.out.size))
      have HG6 : Hid (w.heap.size ≤ g6) := Lib.hid (by
        rcases k5 with h | h
        · rw [h]; exact HG5.out
        · exact Nat.le_trans HB5.out.size h)
      clear k1 k2 k3 k4 k5 k6 HT
      go_wp2_with fail
      go_ret2
      exact ⟨g6, cutA A5 m, rfl, HTR.out, HG6.out, HB6.out⟩
end Go.Proofs.YteoljiclmhmbnaaDoor.Da

/-
  What a search of a double array finds, plain.
-/
set_option linter.unusedVariables false
set_option linter.unusedSimpArgs false
namespace Go.Proofs.YteoljiclmhmbnaaDoor.Da

/-- The rests of keys behind a text. -/
def walkK : List Nat → Ks → Ks
  | [], ks => ks
  | a :: s, ks => walkK s (tails a ks)
theorem walkK_nil (s : List Nat) : walkK s [] = [] := by
  induction s with
  | nil => rfl
  | cons a s ih => exact ih
theorem walkK_append (s t : List Nat) (ks : Ks) : walkK (s ++ t) ks = walkK t (walkK s ks) := by
  induction s generalizing ks with
  | nil => rfl
  | cons a s ih => exact ih _
theorem mem_walkK {s r : List Nat} {id : Int} {ks : Ks} : (r, id) ∈ walkK s ks ↔ (s ++ r, id) ∈ ks := by
  induction s generalizing ks with
  | nil => rfl
  | cons a s ih => rw [walkK, ih, mem_tails]; rfl
/-- The hits from a place on. -/
def hitAt (ks : Ks) (i : Nat) : List (Int × Int) := match firstE ks with
  | some id => [(id, (i : Int))]
  | none => []
def hitsF : Ks → List Nat → Nat → List (Int × Int)
  | _, [], _ => []
  | ks, a :: s, i => hitAt (tails a ks) (i + 1) ++ hitsF (tails a ks) s (i + 1)
theorem hitsF_nil (s : List Nat) (i : Nat) : hitsF [] s i = [] := by
  induction s generalizing i with
  | nil => rfl
  | cons a s ih => exact ih _
theorem hitsF_length (ks : Ks) (s : List Nat) (i : Nat) : (hitsF ks s i).length ≤ s.length := by
  induction s generalizing ks i with
  | nil => exact Nat.le_refl _
  | cons a s ih =>
    rw [hitsF, List.length_append, List.length_cons]
    have h1 : (hitAt (tails a ks) (i + 1)).length ≤ 1 := by
      unfold hitAt
      split <;> simp
    have := ih (tails a ks) (i + 1)
    omega
/-- What a search for the whole text tells. -/
def findF (ks : Ks) (s : List Nat) : Int × Bool := if s = [] then (0, false) else if walkK s ks = [] then (0, false) else ((firstE (walkK s ks)).getD 0, true)
/-- The last of hits, as found. -/
def lastF (l : List (Int × Int)) : Int × Bool := match l.getLast? with
  | some h => (h.1, true)
  | none => (0, false)

/-- One step at a node. -/
theorem Tr.base {A : DA} {N : Nat → Prop} {p : Nat} {ks : Ks} (h : Tr A N p ks) : ∃ B : Nat, A.b p = B ∧ 1 ≤ B := by
  cases h with
  | node p ks B hb hB leaf kid sub none0 none1 => exact ⟨B, hb, hB⟩
theorem Tr.step {A : DA} {N : Nat → Prop} {p : Nat} {ks : Ks} (h : Tr A N p ks) {B : Nat} (hB : A.b p = B) {ch : Nat} (h1 : 1 ≤ ch) :
    (tails ch ks ≠ [] → B + ch < A.n ∧ A.c (B + ch) = p ∧ Tr A N (B + ch) (tails ch ks)) ∧ (tails ch ks = [] → ¬ (B + ch < A.n ∧ A.c (B + ch) = p)) := by
  cases h with
  | node p ks B' hb hB' leaf kid sub none0 none1 =>
    have : B = B' := by omega
    subst this
    exact ⟨fun hn => ⟨(kid ch h1 hn).1, (kid ch h1 hn).2.1, sub ch h1 hn⟩, none1 ch h1⟩
theorem Tr.stop {A : DA} {N : Nat → Prop} {p : Nat} {ks : Ks} (h : Tr A N p ks) {B : Nat} (hB : A.b p = B) :
    (∀ id, firstE ks = some id → B < A.n ∧ A.c B = p ∧ A.b B = -id) ∧ (firstE ks = none → ¬ (B < A.n ∧ A.c B = p)) := by
  cases h with
  | node p ks B' hb hB' leaf kid sub none0 none1 =>
    have : B = B' := by omega
    subst this
    exact ⟨fun id hid => ⟨(leaf id hid).1, (leaf id hid).2.1, (leaf id hid).2.2.2⟩, none0⟩
end Go.Proofs.YteoljiclmhmbnaaDoor.Da

/-
  The walks of search and Find.
-/
set_option linter.unusedVariables false
set_option linter.unusedSimpArgs false
namespace Go.Proofs.YteoljiclmhmbnaaDoor.Da
open Go.RowKit Go.ChangeShapes Go.Proofs.YteoljiclmhmbnaaDoor.K Go.Proofs.YteoljiclmhmbnaaDoorW.PrintWords

section
variable {g : Nat} {A : DA} {ks : Ks} {w : World}
theorem Trie.cb (h : Trie g A ks w) {i : Nat} (hi : i < A.n) : w.cell? ⟨g, i * 2, none⟩ = some (.int .i32 (A.b i)) := by rw [cell_of_heap h.arr, cells_b A hi]
theorem Trie.cc (h : Trie g A ks w) {i : Nat} (hi : i < A.n) : w.cell? ⟨g, i * 2 + 1, none⟩ = some (.int .i32 (A.c i)) := by rw [cell_of_heap h.arr, cells_c A hi]
theorem Trie.below (h : Trie g A ks w) {w' : World} (hb : Below w.heap.size w w') : Trie g A ks w' := { h with arr := (hb.block g (lt_of_heap h.arr)).trans h.arr }
theorem Trie.drewN (h : Trie g A ks w) (n : Nat) : Trie g A ks (w.drewN n) := { h with arr := h.arr }
end
/-- The byte at a place. -/
theorem byte_at (s : ByteArray) {k : Nat} (hk : k < s.size) : ∃ ch : Nat, (s[k].toNat = ch) ∧ (bl s).drop k = ch :: (bl s).drop (k + 1) ∧ ch ≤ 255 := by
  refine ⟨s[k].toNat, rfl, ?_, by have := s[k].toNat_lt; omega⟩
  rw [bl_at s hk]
  congr 1
  have h' : k < s.data.size := hk
  simp only [ByteArray.get!]
  rw [getElem!_pos s.data k h']
  rfl

/-- The result of search. -/
def SearchRet (g : Nat) (A : DA) (ks : Ks) (s : ByteArray) (w : World) (e : Ending) (w' : World) : Prop :=
  ∃ (p q i : Int) (ok : Bool), e = .returned (.tuple #[.int .i64 p, .int .i64 q, .int .i64 i, .bool ok]) ∧ (ok = true ↔ bl s ≠ [] ∧ walkK (bl s) ks ≠ []) ∧
    (ok = true → ∃ q0 : Nat, q = q0 ∧ q0 < A.n ∧ Tr A (fun _ => True) q0 (walkK (bl s) ks)) ∧ ∃ n, w' = w.drewN n
set_option maxHeartbeats 1000000 in
set_option maxRecDepth 100000 in
theorem search_any (dp g : Nat) (A : DA) (ks : Ks) (s : ByteArray) (w : World) (hd : w.cell? ⟨dp, 0, none⟩ = some (.slice (some ⟨g, 0, none⟩) A.n A.n)) (ht : Trie g A ks w) (hcl : ∀ a ∈ bl s, 1 ≤ a) (hs : s.size ≤ 2147483647) :
    Calls Tryd.prog 112 #[.pointer (some ⟨dp, 0, none⟩), .string s] w (SearchRet g A ks s w) := by
  have HT := Lib.hid ht
  have HCL := Lib.hid hcl
  have hn := ht.n
  have hpos := ht.pos
  clear ht hcl
  by_cases h0 : s.size = 0
  · have HS := Lib.hid h0
    go_enter Tryd.func112, Tryd.ntmps112
    go_wp2
    have hbl : bl s = [] := List.eq_nil_of_length_eq_zero (by rw [bl_length]; exact HS.out)
    exact bodyPost_ret (v := .tuple #[.int .i64 0, .int .i64 0, .int .i64 0, .bool false]) (by simp [results, Tryd.results112, go_sem]) rfl ⟨0, 0, 0, false, rfl, by simp [hbl], by simp, 0, rfl⟩
  · have hd0 : ((s.size : Int) == 0) = false := by rw [beq_eq_false_iff_ne]; omega
    go_enter Tryd.func112, Tryd.ntmps112
    go_wp2_with fail
    have HD := Lib.hid hd
    clear hd hd0
    go_loopw [4, 5, 6, 18] (fun pv qv iv jv wr => ∃ (k q0 : Nat) (z1 z2 : Int), k ≤ s.size ∧ jv = .int .i64 k ∧ qv = .int .i64 q0 ∧ pv = .int .i64 z1 ∧ iv = .int .i64 z2 ∧ q0 < A.n ∧ Hid (Tr A (fun _ => True) q0 (walkK ((bl s).take k) ks)) ∧ Hid (k = 0 ∨ walkK ((bl s).take k) ks ≠ []) ∧ Hid (∃ n, wr = w.drewN n)) (fun _ _ _ jv _ => s.size - (intOf jv).toNat)
    case atStart => exact ⟨0, 0, 0, 0, Nat.zero_le _, rfl, rfl, rfl, rfl, hpos, Lib.hid HT.out.tr, Lib.hid (.inl rfl), Lib.hid ⟨0, rfl⟩⟩
    case round =>
      obtain ⟨k, q0, z1, z2, hk, rfl, rfl, rfl, rfl, hq, HTR, HNE, HW⟩ := hrel
      by_cases hlt : k < s.size
      · obtain ⟨ch, hchv, hdrop, hch255⟩ := byte_at s hlt
        have hch1 : 1 ≤ ch := HCL.out ch (List.mem_of_mem_drop (by rw [hdrop]; exact List.mem_cons_self ..))
        have hchz : ((ch : Int) == 0) = false := by rw [beq_eq_false_iff_ne]; omega
        obtain ⟨B, hB, hB1⟩ := HTR.out.base
        obtain ⟨hs1, hs2⟩ := HTR.out.step hB hch1
        have htk : walkK ((bl s).take (k + 1)) ks = tails ch (walkK ((bl s).take k) ks) := by
          have hkl : k < (bl s).length := by rw [bl_length]; exact hlt
          have : (bl s).take (k + 1) = (bl s).take k ++ [ch] := by
            rw [List.take_succ_eq_append_getElem hkl]
            rw [List.drop_eq_getElem_cons hkl] at hdrop
            injection hdrop with h1 _
            rw [h1]
          rw [this, walkK_append]
          rfl
        have hbB := (HT.out.rb q0 hq).2
        rw [hB] at hbB
        obtain ⟨nx, hnx⟩ : ∃ nx, nx = B + ch := ⟨_, rfl⟩
        have hnz : (B : Int) + (ch : Int) = (nx : Int) := by omega
        have hnw : IntKind.i64.wrap (nx : Int) = nx := IntWalk.i64_in _ (by omega)
        obtain ⟨nn, hwn⟩ := HW.out
        have hv : wr.cell? ⟨dp, 0, none⟩ = some (.slice (some ⟨g, 0, none⟩) A.n A.n) := by rw [hwn]; exact HD.out
        have hcb : wr.cell? ⟨g, q0 * 2, none⟩ = some (.int .i32 (B : Int)) := by rw [hwn, ← hB]; exact (HT.out.drewN nn).cb hq
        rw [← hnx] at hs1 hs2
        have HTK := Lib.hid htk
        have HS1 := Lib.hid hs1
        have HS2 := Lib.hid hs2
        have HWN := Lib.hid hwn
        clear hdrop hB htk hnx hs1 hs2 hwn
        by_cases hnn : nx < A.n
        · obtain ⟨x, hx⟩ : ∃ x, x = A.c nx := ⟨_, rfl⟩
          have hcc : wr.cell? ⟨g, nx * 2 + 1, none⟩ = some (.int .i32 x) := by rw [HWN.out, hx]; exact (HT.out.drewN nn).cc hnn
          have hxr := HT.out.rc nx hnn
          rw [← hx] at hxr
          have hxr1 := hxr.1
          have hxr2 := hxr.2
          have hge : decide (A.n ≤ nx) = false := by simpa using hnn
          have HX := Lib.hid hx
          clear hx hxr
          by_cases hxq : x = (q0 : Int)
          · have hne : (x != (q0 : Int)) = false := by simp [hxq]
            have HXQ := Lib.hid hxq
            clear hxq
            have htl : tails ch (walkK ((bl s).take k) ks) ≠ [] := fun h => HS2.out h ⟨hnn, by rw [← HX.out]; exact HXQ.out⟩
            have HTL := Lib.hid htl
            clear htl
            go_wp2_with fail
            go_quiet (fail)
            go_wp2_with fail
            refine ⟨⟨k + 1, nx, (q0 : Int), (k : Int), by omega, by go_num, rfl, rfl, rfl, hnn, Lib.hid (by rw [HTK.out]; exact (HS1.out HTL.out).2.2), Lib.hid (.inr (by rw [HTK.out]; exact HTL.out)), Lib.hid ⟨nn + nq, by rw [HWN.out, World.drewN_drewN]⟩⟩, by simp [intOf]; omega⟩
          · have hne : (x != (q0 : Int)) = true := by rw [bne_iff_ne]; exact hxq
            have hno : walkK (bl s) ks = [] := by
              have h1 : tails ch (walkK ((bl s).take k) ks) = [] := Classical.byContradiction fun h => hxq (by rw [HX.out]; exact (HS1.out h).2.1)
              rw [← List.take_append_drop (k + 1) (bl s), walkK_append, HTK.out, h1, walkK_nil]
            have HNO := Lib.hid hno
            clear hxq hno
            go_wp2_with fail
            go_quiet (fail)
            go_wp2_with fail
            exact bodyPost_ret (v := .tuple #[.int .i64 q0, .int .i64 nx, .int .i64 k, .bool false]) (by simp [results, Tryd.results112, go_sem]) rfl ⟨_, _, _, false, rfl, by simp [HNO.out], by simp, nn + nq, by rw [HWN.out, World.drewN_drewN]⟩
        · have hge : decide (A.n ≤ nx) = true := by simpa using hnn
          have hno : walkK (bl s) ks = [] := by
            have h1 : tails ch (walkK ((bl s).take k) ks) = [] := Classical.byContradiction fun h => hnn (HS1.out h).1
            rw [← List.take_append_drop (k + 1) (bl s), walkK_append, HTK.out, h1, walkK_nil]
          have HNO := Lib.hid hno
          clear hnn hno
          go_wp2_with fail
          go_quiet (fail)
          go_wp2_with fail
          exact bodyPost_ret (v := .tuple #[.int .i64 q0, .int .i64 nx, .int .i64 k, .bool false]) (by simp [results, Tryd.results112, go_sem]) rfl ⟨_, _, _, false, rfl, by simp [HNO.out], by simp, nn + nq, by rw [HWN.out, World.drewN_drewN]⟩
      · obtain rfl : k = s.size := by omega
        go_wp2_with fail
        have hne : bl s ≠ [] := by
          intro h
          have := congrArg List.length h
          rw [bl_length] at this
          exact h0 (by simpa using this)
        have htr := HTR.out
        have hnw := HNE.out
        rw [List.take_of_length_le (by rw [bl_length]; exact Nat.le_refl _)] at htr hnw
        have hw' : walkK (bl s) ks ≠ [] := hnw.resolve_left h0
        exact bodyPost_ret (v := .tuple #[.int .i64 z1, .int .i64 q0, .int .i64 z2, .bool true]) (by simp [results, Tryd.results112, go_sem]) rfl ⟨_, _, _, true, rfl, by simp [hne, hw'], fun _ => ⟨q0, rfl, hq, htr⟩, HW.out⟩

theorem walk_id {ks : Ks} (h : ∀ x ∈ ks, 0 ≤ x.2) {s : List Nat} {id : Int} (hf : firstE (walkK s ks) = some id) : 0 ≤ id := h _ (mem_walkK.1 (firstE_some hf))
set_option maxHeartbeats 1000000 in
set_option maxRecDepth 100000 in
theorem find_any (g : Nat) (A : DA) (ks : Ks) (s : ByteArray) (w : World) (ht : Trie g A ks w) (hid : ∀ x ∈ ks, 0 ≤ x.2) (hcl : ∀ a ∈ bl s, 1 ≤ a) (hs : s.size ≤ 2147483647) :
    Calls Tryd.prog 84 #[.slice (some ⟨g, 0, none⟩) A.n A.n, .string s] w fun e w' => e = .returned (.tuple #[.int .i64 (findF ks (bl s)).1, .bool (findF ks (bl s)).2]) ∧ Below w.heap.size w w' := by
  obtain ⟨w1, hw1⟩ : ∃ w1, w1 = w.alloc (.cells #[.slice (some ⟨g, 0, none⟩) A.n A.n] tDA) := ⟨_, rfl⟩
  have hc1 : w1.cell? ⟨w.heap.size, 0, none⟩ = some (.slice (some ⟨g, 0, none⟩) A.n A.n) := by rw [hw1]; exact cell_new0 _ _ _
  have hb1 : Below w.heap.size w w1 := by rw [hw1]; exact (Below.refl _ _).alloc (Nat.le_refl _) _
  have HT := Lib.hid (ht.below hb1)
  have HID := Lib.hid hid
  have HB := Lib.hid hb1
  have hn := ht.n
  have HSE := Lib.hid (search_any w.heap.size g A ks s w1 hc1 HT.out hcl hs)
  clear ht hid hcl hb1
  go_enter Tryd.func84, Tryd.ntmps84
  go_wp2_with fail
  rw [← hw1]
  have HW1 := Lib.hid hw1
  clear hw1
  refine HSE.out.mono ?_
  rintro e w2 ⟨p, q, i, ok, rfl, hok, hq, n, rfl⟩
  have hc2 : (w1.drewN n).cell? ⟨w.heap.size, 0, none⟩ = some (.slice (some ⟨g, 0, none⟩) A.n A.n) := hc1
  have HT2 := Lib.hid (HT.out.drewN n)
  have HB2 := Lib.hid (pw_below_drewN HB.out n)
  clear hc1 HSE
  generalize w1.drewN n = w2 at hc2 HT2 HB2 ⊢
  cases ok with
  | false =>
    have hf : findF ks (bl s) = (0, false) := by
      unfold findF
      by_cases h1 : bl s = []
      · rw [if_pos h1]
      · rw [if_neg h1]
        by_cases h2 : walkK (bl s) ks = []
        · rw [if_pos h2]
        · exact absurd (hok.2 ⟨h1, h2⟩) (by simp)
    have HF := Lib.hid hf
    clear hf hok hq
    go_wp2_with fail
    go_ret2
    rw [HF.out]
    exact ⟨rfl, HB2.out⟩
  | true =>
    obtain ⟨q0, rfl, hq0, htr⟩ := hq rfl
    obtain ⟨h1, h2⟩ := hok.1 rfl
    have hf : findF ks (bl s) = ((firstE (walkK (bl s) ks)).getD 0, true) := by rw [findF, if_neg h1, if_neg h2]
    obtain ⟨B, hB, hB1⟩ := htr.base
    obtain ⟨hs1, hs2⟩ := htr.stop hB
    have hcb : w2.cell? ⟨g, q0 * 2, none⟩ = some (.int .i32 (B : Int)) := by rw [← hB]; exact HT2.out.cb hq0
    have hbB := (HT2.out.rb q0 hq0).2
    rw [hB] at hbB
    have HF := Lib.hid hf
    have HS1 := Lib.hid hs1
    have HS2 := Lib.hid hs2
    clear hok hq htr h1 h2 hf hB hs1 hs2
    by_cases hnn : B < A.n
    · obtain ⟨x, hx⟩ : ∃ x, x = A.c B := ⟨_, rfl⟩
      obtain ⟨y, hy⟩ : ∃ y, y = A.b B := ⟨_, rfl⟩
      have hcc : w2.cell? ⟨g, B * 2 + 1, none⟩ = some (.int .i32 x) := by rw [hx]; exact HT2.out.cc hnn
      have hcy : w2.cell? ⟨g, B * 2, none⟩ = some (.int .i32 y) := by rw [hy]; exact HT2.out.cb hnn
      have hxr := HT2.out.rc B hnn
      have hyr := HT2.out.rb B hnn
      rw [← hx] at hxr
      rw [← hy] at hyr
      have hxr1 := hxr.1
      have hxr2 := hxr.2
      have hyr1 := hyr.1
      have hyr2 := hyr.2
      have hge : decide (A.n ≤ B) = false := by simpa using hnn
      have HX := Lib.hid hx
      have HY := Lib.hid hy
      clear hx hy hxr hyr
      by_cases hxq : x = (q0 : Int)
      · have hne : (x != (q0 : Int)) = false := by simp [hxq]
        cases hfe : firstE (walkK (bl s) ks) with
        | none => exact absurd ⟨hnn, by rw [← HX.out]; exact hxq⟩ (HS2.out hfe)
        | some id =>
          have hid0 := walk_id HID.out hfe
          have hyid : y = -id := by rw [HY.out]; exact (HS1.out id hfe).2.2
          have hy0 : decide (0 < y) = false := by rw [decide_eq_false_iff_not]; omega
          have HFE := Lib.hid hfe
          have HYI := Lib.hid hyid
          clear hfe hyid hxq
          go_wp2_with fail
          go_ret2
          rw [HF.out, HFE.out]
          exact ⟨by have := HYI.out; simp; omega, HB2.out⟩
      · have hne : (x != (q0 : Int)) = true := by rw [bne_iff_ne]; exact hxq
        cases hfe : firstE (walkK (bl s) ks) with
        | some id => exact absurd (by rw [HX.out]; exact (HS1.out id hfe).2.1) hxq
        | none =>
          have HFE := Lib.hid hfe
          clear hfe hxq
          go_wp2_with fail
          go_ret2
          rw [HF.out, HFE.out]
          exact ⟨rfl, HB2.out⟩
    · have hge : decide (A.n ≤ B) = true := by simpa using hnn
      cases hfe : firstE (walkK (bl s) ks) with
      | some id => exact absurd (HS1.out id hfe).1 hnn
      | none =>
        have HFE := Lib.hid hfe
        clear hfe hnn
        go_wp2_with fail
        go_ret2
        rw [HF.out, HFE.out]
        exact ⟨rfl, HB2.out⟩
end Go.Proofs.YteoljiclmhmbnaaDoor.Da

/-
  The walk of PrefixSearch.
-/
set_option linter.unusedVariables false
set_option linter.unusedSimpArgs false
namespace Go.Proofs.YteoljiclmhmbnaaDoor.Da
open Go.RowKit Go.ChangeShapes Go.Proofs.YteoljiclmhmbnaaDoor.K Go.Proofs.YteoljiclmhmbnaaDoorW.PrintWords

end Go.Proofs.YteoljiclmhmbnaaDoor.Da

/-
  The walk of CommonPrefixSearch.
-/
set_option linter.unusedVariables false
set_option linter.unusedSimpArgs false
namespace Go.Proofs.YteoljiclmhmbnaaDoor.Da
open Go.RowKit Go.ChangeShapes Go.Proofs.YteoljiclmhmbnaaDoor.K Go.Proofs.YteoljiclmhmbnaaDoorW.PrintWords

/-- A row of numbers of the call's own. -/
abbrev OwnI (base : Nat) (v : Value) (xs : List Int) (w : World) : Prop := w.ownsRow base tInt 1 v (xs.map (Value.int .i64)).length (xs.map (Value.int .i64))
theorem OwnI.grown {base : Nat} {v v' : Value} {xs : List Int} {w w' : World} {row : Option Nat} (h : OwnI base v xs w) (hg : w.grownBy w' row) (hne : v.ownBlock = none ∨ v.ownBlock ≠ row) : OwnI base v xs w' := World.ownsRow.kept h hg hne
theorem OwnI.below {base : Nat} {v : Value} {xs : List Int} {w w' : World} (h : OwnI base v xs w) (hb : Below w.heap.size w w') : OwnI base v xs w' := own_keep h (fun k hk => hb.block k (World.ownsRow.lt h k hk).2)
/-- Two rows apart. -/
def Apt (a b : Value) : Prop := a.ownBlock = none ∨ a.ownBlock ≠ b.ownBlock
theorem Apt.symm {a b : Value} (h : Apt a b) : Apt b a := by
  unfold Apt at h ⊢
  cases hb : b.ownBlock with
  | none => exact .inl rfl
  | some k =>
    refine .inr (fun e => ?_)
    rcases h with h | h
    · rw [h] at e; cases e
    · exact h (by rw [hb, e])
theorem Apt.moved {a a' b : Value} {N : Nat} (h : Apt a b) (hat : a'.ownBlock = a.ownBlock ∨ ∃ k, a'.ownBlock = some k ∧ N ≤ k) (hb : ∀ k, b.ownBlock = some k → k < N) : Apt a' b := by
  unfold Apt at h ⊢
  rcases hat with he | ⟨k, he, hk⟩
  · rw [he]; exact h
  · refine .inr (fun e => ?_)
    have := hb k (by rw [← e, he])
    omega
set_option maxHeartbeats 1000000 in
set_option maxRecDepth 100000 in
theorem common_any (g : Nat) (A : DA) (ks : Ks) (s : ByteArray) (w : World) (ht : Trie g A ks w) (hid : ∀ x ∈ ks, 0 ≤ x.2) (hcl : ∀ a ∈ bl s, 1 ≤ a) (hs : s.size ≤ 2147483647) :
    Calls Tryd.prog 85 #[.slice (some ⟨g, 0, none⟩) A.n A.n, .string s] w fun e w' => ∃ v1 v2, e = .returned (.tuple #[v1, v2]) ∧ OwnI w.heap.size v1 ((hitsF ks (bl s) 0).map (·.1)) w' ∧ OwnI w.heap.size v2 ((hitsF ks (bl s) 0).map (·.2)) w' ∧ Below w.heap.size w w' := by
  have HT := Lib.hid ht
  have HID := Lib.hid hid
  have HCL := Lib.hid hcl
  have hn := ht.n
  have hpos := ht.pos
  clear ht hid hcl
  obtain ⟨i0, hi0, hz0, hz1, hz2⟩ := info_parts infoInt
  go_enter Tryd.func85, Tryd.ntmps85
  go_wp2_with fail
  go_loopw [4, 5, 6, 7, 9] (fun dv ov pv qv iv wr => ∃ (k q0 : Nat) (z : Int) (kk : Ks) (H : List (Int × Int)), k ≤ s.size ∧ iv = .int .i64 k ∧ qv = .int .i64 q0 ∧ pv = .int .i64 z ∧ Hid (OwnI w.heap.size dv (H.map (·.1)) wr) ∧ Hid (OwnI w.heap.size ov (H.map (·.2)) wr) ∧ Hid (Apt dv ov) ∧ H.length ≤ k ∧ q0 < A.n ∧ Hid (Tr A (fun _ => True) q0 kk) ∧ Hid (∀ x ∈ kk, 0 ≤ x.2) ∧ Hid (hitsF ks (bl s) 0 = H ++ hitsF kk ((bl s).drop k) k) ∧ Hid (Below w.heap.size w wr)) (fun _ _ _ _ iv _ => s.size - (intOf iv).toNat)
  case atStart => exact ⟨0, 0, 0, ks, [], Nat.zero_le _, rfl, rfl, rfl, Lib.hid (World.ownsRow_nil _ _ _ _), Lib.hid (World.ownsRow_nil _ _ _ _), Lib.hid (.inl rfl), Nat.zero_le _, hpos, Lib.hid HT.out.tr, HID, Lib.hid rfl, Lib.hid (Below.refl _ _)⟩
  case round =>
    obtain ⟨k, q0, z, kk, H, hk, rfl, rfl, rfl, HO1, HO2, HAP, hHl, hq, HTR, HKI, HH, HW⟩ := hrel
    by_cases hlt : k < s.size
    · obtain ⟨ch, hchv, hdrop, hch255⟩ := byte_at s hlt
      have hch1 : 1 ≤ ch := HCL.out ch (List.mem_of_mem_drop (by rw [hdrop]; exact List.mem_cons_self ..))
      have hchz : ((ch : Int) == 0) = false := by rw [beq_eq_false_iff_ne]; omega
      obtain ⟨B, hB, hB1⟩ := HTR.out.base
      obtain ⟨hs1, hs2⟩ := HTR.out.step hB hch1
      have hhit : hitsF kk ((bl s).drop k) k = hitAt (tails ch kk) (k + 1) ++ hitsF (tails ch kk) ((bl s).drop (k + 1)) (k + 1) := by rw [hdrop]; rfl
      have hbB := (HT.out.rb q0 hq).2
      rw [hB] at hbB
      obtain ⟨nx, hnx⟩ : ∃ nx, nx = B + ch := ⟨_, rfl⟩
      have hnz : (B : Int) + (ch : Int) = (nx : Int) := by omega
      have hnw : IntKind.i64.wrap (nx : Int) = nx := IntWalk.i64_in _ (by omega)
      have HTW := Lib.hid (HT.out.below HW.out)
      have hcb : wr.cell? ⟨g, q0 * 2, none⟩ = some (.int .i32 (B : Int)) := by rw [← hB]; exact HTW.out.cb hq
      rw [← hnx] at hs1 hs2
      have HHIT := Lib.hid hhit
      have HS1 := Lib.hid hs1
      have HS2 := Lib.hid hs2
      clear hdrop hB hnx hs1 hs2 hhit
      by_cases hnn : nx < A.n
      · obtain ⟨x, hx⟩ : ∃ x, x = A.c nx := ⟨_, rfl⟩
        have hcc : wr.cell? ⟨g, nx * 2 + 1, none⟩ = some (.int .i32 x) := by rw [hx]; exact HTW.out.cc hnn
        have hxr := HT.out.rc nx hnn
        rw [← hx] at hxr
        have hxr1 := hxr.1
        have hxr2 := hxr.2
        have hge : decide (A.n ≤ nx) = false := by simpa using hnn
        have HX := Lib.hid hx
        clear hx hxr
        by_cases hxq : x = (q0 : Int)
        · have hne : (x != (q0 : Int)) = false := by simp [hxq]
          have HXQ := Lib.hid hxq
          clear hxq
          have htl : tails ch kk ≠ [] := fun h => HS2.out h ⟨hnn, by rw [← HX.out]; exact HXQ.out⟩
          obtain ⟨_, _, htr2⟩ := HS1.out htl
          have hks2 : ∀ x ∈ tails ch kk, 0 ≤ x.2 := fun x hx => HKI.out (ch :: x.1, x.2) (mem_tails.1 hx)
          obtain ⟨kk2, hkk2⟩ : ∃ kk2, kk2 = tails ch kk := ⟨_, rfl⟩
          rw [← hkk2] at htr2 hks2
          have HKK := Lib.hid hkk2
          obtain ⟨B2, hB2, hB21⟩ := htr2.base
          obtain ⟨he1, he2⟩ := htr2.stop hB2
          have hcb2 : wr.cell? ⟨g, nx * 2, none⟩ = some (.int .i32 (B2 : Int)) := by rw [← hB2]; exact HTW.out.cb hnn
          have hbB2 := (HT.out.rb nx hnn).2
          rw [hB2] at hbB2
          have HTR2 := Lib.hid htr2
          have HE1 := Lib.hid he1
          have HE2 := Lib.hid he2
          have HKI2 := Lib.hid hks2
          have HHIT2 : Hid (hitsF ks (bl s) 0 = (H ++ hitAt kk2 (k + 1)) ++ hitsF kk2 ((bl s).drop (k + 1)) (k + 1)) := Lib.hid (by rw [HH.out, HHIT.out, List.append_assoc, HKK.out])
          clear htl hkk2 htr2 hB2 he1 he2 hks2
          cases hfe : firstE kk2 with
          | some id =>
            obtain ⟨hl2, hc2, hbb2⟩ := HE1.out id hfe
            have hid0 : 0 ≤ id := HKI2.out _ (firstE_some hfe)
            have hidu := HT.out.rb B2 hl2
            rw [hbb2] at hidu
            have hid1 := hidu.1
            have hcc2 : wr.cell? ⟨g, B2 * 2 + 1, none⟩ = some (.int .i32 (nx : Int)) := by rw [← hc2]; exact HTW.out.cc hl2
            have hcd2 : wr.cell? ⟨g, B2 * 2, none⟩ = some (.int .i32 (-id)) := by rw [← hbb2]; exact HTW.out.cb hl2
            have hlt2 : decide (B2 < A.n) = true := by simpa using hl2
            have hle2 : decide (-id ≤ 0) = true := by simp; omega
            have hle3 : decide (0 ≤ id) = true := by simp; omega
            have HFE : Hid (hitAt kk2 (k + 1) = [(id, ((k + 1 : Nat) : Int))]) := Lib.hid (by rw [hitAt, hfe])
            clear hfe hc2 hbb2 hidu
            go_wp2_with fail
            go_quiet (fail)
            have HW2 := Lib.hid (pw_below_drewN HW.out nq)
            have HO12 : Hid (OwnI w.heap.size u4 (H.map (·.1)) (wr.drewN nq)) := Lib.hid (HO1.out.below (pw_below_drewN (Below.refl _ _) nq))
            have HO22 : Hid (OwnI w.heap.size u5 (H.map (·.2)) (wr.drewN nq)) := Lib.hid (HO2.out.below (pw_below_drewN (Below.refl _ _) nq))
            go_upto_region 12 with fail
            have hcd3 : (wr.drewN nq).cell? ⟨g, B2 * 2, none⟩ = some (.int .i32 (-id)) := hcd2
            generalize wr.drewN nq = w2 at HW2 HO12 HO22 hcd3 ⊢
            clear hcd2 hcc2 hcb2 hcc hcb
            go_upto_region 13 with (at_builtin; refine app1 (w0 := w) w.heap.size rfl _ _ 37 tInt (.int .i64 0) 8 rfl Tryd.underlying37 (by kernel_rfl) rfl (by decide) _ ((H.map (·.1)).map (Value.int .i64)) (.int .i64 id) w2.heap.size rfl rfl (cell_new0 _ _ _) rfl (HO12.out.alloc _) (HW2.out.alloc HW2.out.size _) (by have := HW2.out.size; simp; omega) (by simp; omega) ?_)
            intro v1 w3 hown1 hb3 hgr1 hat1
            have HX1 : Hid (OwnI w.heap.size v1 ((H ++ [(id, ((k + 1 : Nat) : Int))]).map (·.1)) w3) := Lib.hid (by unfold OwnI; simpa using hown1)
            have HX2 : Hid (OwnI w.heap.size u5 (H.map (·.2)) w3) := Lib.hid ((World.ownsRow.alloc HO22.out _).kept hgr1 HAP.out.symm)
            have HX3 := Lib.hid hb3
            have HX4 : Hid (Apt v1 u5) := Lib.hid (HAP.out.moved hat1 (fun j hj => by have := (World.ownsRow.lt HO22.out j hj).2; simp; omega))
            clear hown1 hb3 hgr1 hat1 hcd3
            go_wp2_with (at_builtin; refine app1 (w0 := w) w.heap.size rfl _ _ 37 tInt (.int .i64 0) 8 rfl Tryd.underlying37 (by kernel_rfl) rfl (by decide) _ ((H.map (·.2)).map (Value.int .i64)) (.int .i64 ((k : Int) + 1)) w3.heap.size rfl rfl (cell_new0 _ _ _) rfl (HX2.out.alloc _) (HX3.out.alloc HX3.out.size _) (by have := HX3.out.size; simp; omega) (by simp; omega) ?_)
            intro v2 w4 hown2 hb4 hgr2 hat2
            have HY2 : Hid (OwnI w.heap.size v2 ((H ++ [(id, ((k + 1 : Nat) : Int))]).map (·.2)) w4) := Lib.hid (by unfold OwnI; simpa using hown2)
            have HY1 : Hid (OwnI w.heap.size v1 ((H ++ [(id, ((k + 1 : Nat) : Int))]).map (·.1)) w4) := Lib.hid ((World.ownsRow.alloc HX1.out _).kept hgr2 HX4.out)
            have HY3 := Lib.hid hb4
            have HY4 : Hid (Apt v1 v2) := Lib.hid (HX4.out.symm.moved hat2 (fun j hj => by have := (World.ownsRow.lt HX1.out j hj).2; simp; omega)).symm
            clear hown2 hb4 hgr2 hat2
            go_wp2_with fail
            exact ⟨⟨k + 1, nx, (q0 : Int), kk2, H ++ [(id, ((k + 1 : Nat) : Int))], by omega, by go_num, rfl, rfl, HY1, HY2, HY4, by simp; omega, hnn, HTR2, HKI2, Lib.hid (by rw [HHIT2.out, HFE.out]), HY3⟩, by simp [intOf]; omega⟩
          | none =>
            have HFE : Hid (hitAt kk2 (k + 1) = []) := Lib.hid (by rw [hitAt, hfe])
            have hno2 := HE2.out hfe
            by_cases hl2 : B2 < A.n
            · obtain ⟨y, hy⟩ : ∃ y, y = A.c B2 := ⟨_, rfl⟩
              have hcc2 : wr.cell? ⟨g, B2 * 2 + 1, none⟩ = some (.int .i32 y) := by rw [hy]; exact HTW.out.cc hl2
              have hyr := HT.out.rc B2 hl2
              rw [← hy] at hyr
              have hyr1 := hyr.1
              have hyr2 := hyr.2
              have hlt2 : decide (B2 < A.n) = true := by simpa using hl2
              have hyn : (y == (nx : Int)) = false := by rw [beq_eq_false_iff_ne]; intro e; exact hno2 ⟨hl2, by rw [← hy]; exact e⟩
              clear hfe hno2 hy hyr
              go_wp2_with fail
              go_quiet (fail)
              have HW2 := Lib.hid (pw_below_drewN HW.out nq)
              have HO12 : Hid (OwnI w.heap.size u4 (H.map (·.1)) (wr.drewN nq)) := Lib.hid (HO1.out.below (pw_below_drewN (Below.refl _ _) nq))
              have HO22 : Hid (OwnI w.heap.size u5 (H.map (·.2)) (wr.drewN nq)) := Lib.hid (HO2.out.below (pw_below_drewN (Below.refl _ _) nq))
              go_wp2_with fail
              exact ⟨⟨k + 1, nx, (q0 : Int), kk2, H, by omega, by go_num, rfl, rfl, HO12, HO22, HAP, by omega, hnn, HTR2, HKI2, Lib.hid (by rw [HHIT2.out, HFE.out, List.append_nil]), HW2⟩, by simp [intOf]; omega⟩
            · have hlt2 : decide (B2 < A.n) = false := by simpa using hl2
              clear hfe hno2 hl2
              go_wp2_with fail
              go_quiet (fail)
              have HW2 := Lib.hid (pw_below_drewN HW.out nq)
              have HO12 : Hid (OwnI w.heap.size u4 (H.map (·.1)) (wr.drewN nq)) := Lib.hid (HO1.out.below (pw_below_drewN (Below.refl _ _) nq))
              have HO22 : Hid (OwnI w.heap.size u5 (H.map (·.2)) (wr.drewN nq)) := Lib.hid (HO2.out.below (pw_below_drewN (Below.refl _ _) nq))
              go_wp2_with fail
              exact ⟨⟨k + 1, nx, (q0 : Int), kk2, H, by omega, by go_num, rfl, rfl, HO12, HO22, HAP, by omega, hnn, HTR2, HKI2, Lib.hid (by rw [HHIT2.out, HFE.out, List.append_nil]), HW2⟩, by simp [intOf]; omega⟩
        · have hne : (x != (q0 : Int)) = true := by rw [bne_iff_ne]; exact hxq
          have hno : tails ch kk = [] := Classical.byContradiction fun h => hxq (by rw [HX.out]; exact (HS1.out h).2.1)
          have HEND : Hid (hitsF ks (bl s) 0 = H) := Lib.hid (by rw [HH.out, HHIT.out, hno, hitsF_nil]; simp [hitAt, firstE])
          clear hxq hno
          go_wp2_with fail
          go_quiet (fail)
          have HW2 := Lib.hid (pw_below_drewN HW.out nq)
          have HO12 : Hid (OwnI w.heap.size u4 (H.map (·.1)) (wr.drewN nq)) := Lib.hid (HO1.out.below (pw_below_drewN (Below.refl _ _) nq))
          have HO22 : Hid (OwnI w.heap.size u5 (H.map (·.2)) (wr.drewN nq)) := Lib.hid (HO2.out.below (pw_below_drewN (Below.refl _ _) nq))
          go_wp2_with fail
          go_ret2
          rw [HEND.out]
          exact ⟨_, _, rfl, HO12.out, HO22.out, HW2.out⟩
      · have hge : decide (A.n ≤ nx) = true := by simpa using hnn
        have hno : tails ch kk = [] := Classical.byContradiction fun h => hnn (HS1.out h).1
        have HEND : Hid (hitsF ks (bl s) 0 = H) := Lib.hid (by rw [HH.out, HHIT.out, hno, hitsF_nil]; simp [hitAt, firstE])
        clear hnn hno
        go_wp2_with fail
        go_quiet (fail)
        have HW2 := Lib.hid (pw_below_drewN HW.out nq)
        have HO12 : Hid (OwnI w.heap.size u4 (H.map (·.1)) (wr.drewN nq)) := Lib.hid (HO1.out.below (pw_below_drewN (Below.refl _ _) nq))
        have HO22 : Hid (OwnI w.heap.size u5 (H.map (·.2)) (wr.drewN nq)) := Lib.hid (HO2.out.below (pw_below_drewN (Below.refl _ _) nq))
        go_wp2_with fail
        go_ret2
        rw [HEND.out]
        exact ⟨_, _, rfl, HO12.out, HO22.out, HW2.out⟩
    · obtain rfl : k = s.size := by omega
      have HEND : Hid (hitsF ks (bl s) 0 = H) := Lib.hid (by
        rw [HH.out, List.drop_of_length_le (by rw [bl_length]; exact Nat.le_refl _)]
        simp [hitsF])
      go_wp2_with fail
      go_ret2
      rw [HEND.out]
      exact ⟨_, _, rfl, HO1.out, HO2.out, HW.out⟩
end Go.Proofs.YteoljiclmhmbnaaDoor.Da

/-
  The walk of impl.hits.
-/
set_option linter.unusedVariables false
set_option linter.unusedSimpArgs false
namespace Go.Proofs.YteoljiclmhmbnaaDoor.Da
open Go.RowKit Go.ChangeShapes Go.Proofs.YteoljiclmhmbnaaDoor.K Go.Proofs.YteoljiclmhmbnaaDoorW.PrintWords

abbrev tHit : Nat := 159
abbrev Hit := Int × Int
def kHit : Kd Hit := Kd.pair (Kd.int .i64) (Kd.int .i64)
theorem hit_M (w : World) (base : Nat) (ok : Nat → Prop) (h : Hit) : kHit.M w base ok h [.int .i64 h.1, .int .i64 h.2] := ⟨[.int .i64 h.1], [.int .i64 h.2], rfl, rfl, rfl⟩
theorem infoHit : (Tryd.prog.info? tHit).map (fun i => (i.zero, i.size, i.bytes)) = some (some (.agg #[.int .i64 0, .int .i64 0]), kHit.sz, 16) := by
  show _ = some (some (Value.agg #[.int .i64 0, .int .i64 0]), 2, 16)
  kernel_rfl
end Go.Proofs.YteoljiclmhmbnaaDoor.Da

/-
  The closure that CommonPrefixSearchCallback is handed, and one call of it.
-/
set_option linter.unusedVariables false
set_option linter.unusedSimpArgs false
namespace Go.Proofs.YteoljiclmhmbnaaDoor.Da
open Go.RowKit Go.ChangeShapes Go.Proofs.YteoljiclmhmbnaaDoor.K Go.Proofs.YteoljiclmhmbnaaDoorW.PrintWords

end Go.Proofs.YteoljiclmhmbnaaDoor.Da

/-
  The walk of CommonPrefixSearchCallback with the closure of trieAsk.
-/
set_option linter.unusedVariables false
set_option linter.unusedSimpArgs false
namespace Go.Proofs.YteoljiclmhmbnaaDoor.Da
open Go.RowKit Go.ChangeShapes Go.Proofs.YteoljiclmhmbnaaDoor.K Go.Proofs.YteoljiclmhmbnaaDoorW.PrintWords

theorem Trie.kp {g ab : Nat} {A : DA} {ks : Ks} {w w' : World} (h : Trie g A ks w) (k : Kp ab ab w w') (hn : g ≠ ab) : Trie g A ks w' := { h with arr := (k.block g (lt_of_heap h.arr) hn hn).trans h.arr }
end Go.Proofs.YteoljiclmhmbnaaDoor.Da

/-
  The walk of impl.trieAsk.
-/
set_option linter.unusedVariables false
set_option linter.unusedSimpArgs false
namespace Go.Proofs.YteoljiclmhmbnaaDoor.Da
open Go.RowKit Go.ChangeShapes Go.Proofs.YteoljiclmhmbnaaDoor.K Go.Proofs.YteoljiclmhmbnaaDoorW.PrintWords

abbrev Ans := (Int × Bool) × ((Int × Bool) × (List Hit × List Hit))
def kFound : Kd (Int × Bool) := Kd.pair (Kd.int .i64) Kd.bool
def kAns : Kd Ans := Kd.pair kFound (Kd.pair kFound (Kd.pair (Kd.slice tHit kHit) (Kd.slice tHit kHit)))
/-- What a trie answers to an input. -/
def ansF (ks : Ks) (s : ByteArray) : Ans := (findF ks (bl s), lastF (hitsF ks (bl s) 0), hitsF ks (bl s) 0, hitsF ks (bl s) 0)
theorem ans_M {w : World} {base : Nat} {ok : Nat → Prop} {f l : Int × Bool} {H1 H2 : List Hit} {v1 v2 : Value} (h1 : kHit.R tHit w base ok v1 H1) (h2 : kHit.R tHit w base ok v2 H2) :
    kAns.M w base ok (f, l, H1, H2) [.int .i64 f.1, .bool f.2, .int .i64 l.1, .bool l.2, v1, v2] :=
  ⟨[.int .i64 f.1, .bool f.2], [.int .i64 l.1, .bool l.2, v1, v2], rfl, ⟨[.int .i64 f.1], [.bool f.2], rfl, rfl, rfl⟩, [.int .i64 l.1, .bool l.2], [v1, v2], rfl, ⟨[.int .i64 l.1], [.bool l.2], rfl, rfl, rfl⟩, [v1], [v2], rfl, ⟨v1, rfl, h1⟩, ⟨v2, rfl, h2⟩⟩
theorem OwnI.reads {base n : Nat} {v : Value} {xs : List Int} {w : World} (h : OwnI base v xs w) (hn : xs.length = n) : ∃ A c, v = .slice A n c ∧ (Kd.int .i64).C w A n xs := by
  have h1 : w.ownsRow base tInt 1 v xs.length (encs (Value.int .i64) xs) := by
    have h2 := h
    unfold OwnI at h2
    rw [List.length_map] at h2
    exact h2
  have hr : (Kd.int .i64).R tInt w base (fun _ => True) v xs := Kd.R_of_own h1 (fun _ _ => trivial)
  obtain ⟨A, c, h3, _, h4⟩ := Kd.R_reads hr
  subst hn
  exact ⟨A, c, h3, h4⟩
end Go.Proofs.YteoljiclmhmbnaaDoor.Da

/-
  The walks of impl.Trie and laws.trie.
-/
set_option linter.unusedVariables false
set_option linter.unusedSimpArgs false
namespace Go.Proofs.YteoljiclmhmbnaaDoor.Da
open Go.RowKit Go.ChangeShapes Go.Proofs.YteoljiclmhmbnaaDoor.K Go.Proofs.YteoljiclmhmbnaaDoorW.PrintWords

/-- The rests of all keys. -/
def ksAll (keys : List ByteArray) (ids : List Int) : Ks := ksOf keys ids 0 (List.range keys.length)
theorem ks_ids {keys : List ByteArray} {ids : List Int} (hk : Keys keys ids) : ∀ x ∈ ksAll keys ids, 0 ≤ x.2 := by
  intro x hx
  obtain ⟨j, hj, rfl⟩ := List.mem_map.1 hx
  have hj' : j < ids.length := by rw [hk.il]; simpa using hj
  show 0 ≤ idAt ids j
  rw [idAt_eq hj']
  exact (hk.idr _ (List.getElem_mem hj')).1
/-- Inputs that may be asked. -/
def Asked (inputs : List ByteArray) : Prop := inputs.length ≤ 2147483647 ∧ ∀ s ∈ inputs, (∀ a ∈ bl s, 1 ≤ a) ∧ s.size ≤ 2147483647
end Go.Proofs.YteoljiclmhmbnaaDoor.Da

/-
  The walks of the laws' guards of tries: few (with its sum), within, clean, goodIDs.
-/
set_option linter.unusedVariables false
set_option linter.unusedSimpArgs false
namespace Go.Proofs.YteoljiclmhmbnaaDoor.Da
open Go.RowKit Go.Proofs.YteoljiclmhmbnaaDoor.K Go.Proofs.YteoljiclmhmbnaaDoorW.PrintWords

/-- What the texts of a list weigh. -/
def sumL : List ByteArray → Nat
  | [] => 0
  | s :: r => s.size + 1 + sumL r
def sumLL : List (List ByteArray) → Nat
  | [] => 0
  | l :: r => sumL l + sumLL r
theorem sumL_append (a b : List ByteArray) : sumL (a ++ b) = sumL a + sumL b := by
  induction a with
  | nil => simp [sumL]
  | cons x r ih => simp only [List.cons_append, sumL, ih]; omega
theorem sumLL_append (a b : List (List ByteArray)) : sumLL (a ++ b) = sumLL a + sumLL b := by
  induction a with
  | nil => simp [sumLL]
  | cons x r ih => simp only [List.cons_append, sumLL, ih]; omega
theorem sumL_le {xs : List ByteArray} (h : ∀ x ∈ xs, x.size ≤ 2147483647) : sumL xs ≤ xs.length * 2147483648 := by
  induction xs with
  | nil => simp [sumL]
  | cons x r ih =>
    have h1 := h x (List.mem_cons_self ..)
    have h2 := ih fun y hy => h y (List.mem_cons_of_mem _ hy)
    simp only [sumL, List.length_cons]
    omega
theorem sumL_fits {xs : List ByteArray} (h : fits3 xs) : sumL xs ≤ 4611686016279904256 := by
  have h1 := sumL_le h.2
  have h2 := h.1
  omega
theorem sumLL_le {xs : List (List ByteArray)} (h : ∀ x ∈ xs, fits3 x) : sumLL xs ≤ xs.length * 4611686016279904256 := by
  induction xs with
  | nil => simp [sumLL]
  | cons x r ih =>
    have h1 := sumL_fits (h x (List.mem_cons_self ..))
    have h2 := ih fun y hy => h y (List.mem_cons_of_mem _ hy)
    simp only [sumLL, List.length_cons]
    omega
theorem sumL_take_succ {xs : List ByteArray} {j : Nat} (h : j < xs.length) : sumL (xs.take (j + 1)) = sumL (xs.take j) + xs[j].size + 1 := by
  rw [List.take_succ_eq_append_getElem h, sumL_append]
  simp only [sumL]
  omega
theorem sumLL_take_succ {xs : List (List ByteArray)} {j : Nat} (h : j < xs.length) : sumLL (xs.take (j + 1)) = sumLL (xs.take j) + sumL xs[j] := by
  rw [List.take_succ_eq_append_getElem h, sumLL_append]
  simp only [sumLL]
  omega
theorem sumL_take_le (xs : List ByteArray) (j : Nat) : sumL (xs.take j) ≤ sumL xs := by
  have := sumL_append (xs.take j) (xs.drop j)
  rw [List.take_append_drop] at this
  omega
theorem sumLL_take_le (xs : List (List ByteArray)) (j : Nat) : sumLL (xs.take j) ≤ sumLL xs := by
  have := sumLL_append (xs.take j) (xs.drop j)
  rw [List.take_append_drop] at this
  omega

set_option maxHeartbeats 400000 in
theorem few_sum (A : Option Addr) (c : Nat) (xs : List (List ByteArray)) (w : World) (hC : (Kd.slice 9 Kd.string).C w A xs.length xs) (hs : sumLL xs ≤ 9223372036854775807) :
    Calls Tryd.prog 38 #[.slice A xs.length c] w (BoolIf (sumLL xs ≤ 4000) w) := by
  have hm := hC.2.1
  have HC := Lib.hid hC
  clear hC
  go_enter Tryd.func38, Tryd.ntmps38
  go_wp2
  go_loopw [3, 8] (fun n i wr => ∃ k : Nat, k ≤ xs.length ∧ i = .int .i64 k ∧ n = .int .i64 (sumLL (xs.take k) : Nat) ∧ Below w.heap.size w wr) (fun _ i _ => xs.length - (intOf i).toNat)
  case atStart => exact ⟨0, Nat.zero_le _, rfl, rfl, Below.refl _ _⟩
  case round =>
    obtain ⟨k, hk, rfl, rfl, hbel⟩ := hrel
    by_cases hlt : k < xs.length
    · obtain ⟨ad, A', c', rfl, hs', hl', hC'⟩ := rows_at HC.out k hlt
      have hs'' := (hbel.cell (World.block_lt_of_cell? w _ hs')).trans hs'
      have HS := Lib.hid hs'
      have HC' := Lib.hid hC'
      have hm' := hC'.2.1
      have HL := Lib.hid hbel
      have hnx := sumLL_take_succ hlt
      have htl := sumLL_take_le xs (k + 1)
      clear hs' hl' hC' hbel
      obtain ⟨S0, hS0⟩ : ∃ S0 : Nat, S0 = sumLL (xs.take k) := ⟨_, rfl⟩
      rw [← hS0] at hnx ⊢
      go_wp2
      obtain ⟨wo, hwo⟩ : ∃ wo : World, wo = wr := ⟨_, rfl⟩
      subst hwo
      go_loopw [3, 16] (fun n i wi => ∃ j : Nat, j ≤ xs[k].length ∧ i = .int .i64 j ∧ n = .int .i64 (S0 + sumL (xs[k].take j) : Nat) ∧ Below w.heap.size w wi) (fun _ i _ => xs[k].length - (intOf i).toNat)
      case atStart => exact ⟨0, Nat.zero_le _, rfl, by simp [sumL], HL.out⟩
      case round =>
        obtain ⟨j, hj, rfl, rfl, hbel⟩ := hrel
        by_cases hjl : j < xs[k].length
        · obtain ⟨ad2, rfl, hs2⟩ := strs_at HC'.out j hjl
          have h1 := (hbel.cell (World.block_lt_of_cell? w _ hs2)).trans hs2
          have h2 := (hbel.cell (World.block_lt_of_cell? w _ HS.out)).trans HS.out
          have hnj := sumL_take_succ hjl
          have htj := sumL_take_le xs[k] (j + 1)
          obtain ⟨S1, hS1⟩ : ∃ S1 : Nat, S1 = S0 + sumL (xs[k].take j) := ⟨_, rfl⟩
          rw [← hS1]
          have hz : S1 + xs[k][j].size + 1 ≤ 9223372036854775807 := by omega
          clear hs'' hs2
          go_wp2
          refine ⟨⟨j + 1, by omega, by go_num, ?_, hbel⟩, by simp [intOf]; omega⟩
          rw [hnj, show S0 + (sumL (xs[k].take j) + xs[k][j].size + 1) = S1 + xs[k][j].size + 1 by omega]
          congr 1
          omega
        · clear hs''
          obtain rfl : j = xs[k].length := by omega
          go_wp2
          refine ⟨⟨k + 1, by omega, by go_num, ?_, hbel⟩, by simp [intOf]; omega⟩
          rw [hnx, List.take_length]
    · obtain rfl : k = xs.length := by omega
      have ht : xs.take xs.length = xs := List.take_length
      obtain ⟨S0, hS0⟩ : ∃ S0 : Nat, S0 = sumLL xs := ⟨_, rfl⟩
      rw [ht, ← hS0]
      go_wp2
      go_ret
      exact ⟨_, rfl, fun h => by rw [← hS0]; have := of_decide_eq_true h; omega, hbel⟩

/-- No byte 0. -/
def noZ (s : ByteArray) : Prop := ∀ a ∈ bl s, 1 ≤ a
theorem noZ_of {s : ByteArray} (h : ∀ i (hi : i < s.size), s[i].toNat ≠ 0) : noZ s := by
  intro a ha
  obtain ⟨b, hb, rfl⟩ := List.mem_map.1 ha
  obtain ⟨i, hi, rfl⟩ := List.mem_iff_getElem.1 hb
  have hi' : i < s.size := by simpa using hi
  have := h i hi'
  have e : s[i] = s.data.toList[i] := rfl
  rw [e] at this
  omega

theorem noZ_at {s : ByteArray} (h : noZ s) {i : Nat} (hi : i < s.size) : s[i].toNat ≠ 0 := by
  have e : s[i] = s.data.toList[i]'(by simpa using hi) := rfl
  have := h s[i].toNat (List.mem_map.2 ⟨s[i], by rw [e]; exact List.getElem_mem _, rfl⟩)
  omega
set_option maxHeartbeats 400000 in
theorem within_any (s : ByteArray) (w : World) (hb : s.size ≤ 2147483647) :
    Calls Tryd.prog 73 #[.string s, .int .u8 0] w fun e w' => ∃ b : Bool, e = .returned (.bool b) ∧ (b = false ↔ noZ s) ∧ w' = w := by
  go_enter Tryd.func73, Tryd.ntmps73
  go_wp2
  go_loopw [8] (fun i wr => ∃ k : Nat, k ≤ s.size ∧ i = .int .i64 k ∧ Hid (∀ i (hi : i < s.size), i < k → s[i].toNat ≠ 0) ∧ w = wr) (fun i _ => s.size - (intOf i).toNat)
  case atStart => exact ⟨0, Nat.zero_le _, rfl, Lib.hid (fun i _ hi => absurd hi (by omega)), rfl⟩
  case round =>
    obtain ⟨k, hk, rfl, hall, hw⟩ := hrel
    by_cases hlt : k < s.size
    · by_cases hz : s[k].toNat = 0
      · have hz' : ((s[k].toNat : Int) == 0) = true := by rw [beq_iff_eq]; omega
        have HZ := Lib.hid hz
        clear hz
        go_wp2
        go_ret
        exact ⟨true, rfl, ⟨by simp, fun h => absurd HZ.out (noZ_at h hlt)⟩, hw.symm⟩
      · have hz' : ((s[k].toNat : Int) == 0) = false := by rw [beq_eq_false_iff_ne]; omega
        have HZ := Lib.hid hz
        clear hz
        go_wp2
        refine ⟨⟨k + 1, by omega, by go_num, Lib.hid (fun i hi hik => ?_), hw⟩, by simp [intOf]; omega⟩
        by_cases e : i = k
        · subst e; exact HZ.out
        · exact hall.out i hi (by omega)
    · go_wp2
      go_ret
      exact ⟨false, rfl, ⟨fun _ => noZ_of fun i hi => hall.out i hi (by omega), fun _ => rfl⟩, hw.symm⟩

set_option maxHeartbeats 400000 in
theorem clean_any (A : Option Addr) (c : Nat) (xs : List ByteArray) (w : World) (hC : Kd.string.C w A xs.length xs) (hb : fits3 xs) :
    Calls Tryd.prog 50 #[.slice A xs.length c] w fun e w' => ∃ b : Bool, e = .returned (.bool b) ∧ (b = true ↔ ∀ x ∈ xs, noZ x) ∧ w' = w := by
  have hm := hC.2.1
  have HC := Lib.hid hC
  have hbl := hb.1
  have HB := Lib.hid hb
  clear hC hb
  go_enter Tryd.func50, Tryd.ntmps50
  go_wp2
  go_loopw [6] (fun i wr => ∃ k : Nat, k ≤ xs.length ∧ i = .int .i64 k ∧ Hid (∀ x ∈ xs.take k, noZ x) ∧ w = wr) (fun i _ => xs.length - (intOf i).toNat)
  case atStart => exact ⟨0, Nat.zero_le _, rfl, Lib.hid (by simp), rfl⟩
  case round =>
    obtain ⟨k, hk, rfl, hall, hw⟩ := hrel
    by_cases hlt : k < xs.length
    · obtain ⟨ad, rfl, hs⟩ := strs_at HC.out k hlt
      have hs' : wr.cell? (ad.add k) = some (.string xs[k]) := by rw [← hw]; exact hs
      have hsz := HB.out.2 _ (List.getElem_mem hlt)
      have HW := Lib.hid hw
      clear hs hw
      go_wp2_with fail
      refine (within_any xs[k] wr hsz).mono ?_
      rintro e w1 ⟨b, rfl, hbz, rfl⟩
      have HZ := Lib.hid hbz
      clear hbz
      cases b
      · go_wp2
        refine ⟨⟨k + 1, by omega, by go_num, Lib.hid (all_take hlt hall.out (HZ.out.1 trivial)), HW.out⟩, by simp [intOf]; omega⟩
      · go_wp2
        go_ret
        exact ⟨false, rfl, ⟨by simp, fun h => absurd (HZ.out.2 (h _ (List.getElem_mem hlt))) (by simp)⟩, HW.out.symm⟩
    · go_wp2
      go_ret
      obtain rfl : k = xs.length := by omega
      have := hall.out
      rw [List.take_length] at this
      exact ⟨true, rfl, ⟨fun _ => this, fun _ => rfl⟩, hw.symm⟩

end Go.Proofs.YteoljiclmhmbnaaDoor.Da
