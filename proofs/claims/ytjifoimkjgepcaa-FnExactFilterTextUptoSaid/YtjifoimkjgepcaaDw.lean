/-
  The walk of add: a subtree is built.
-/
import Derived.Test.YtjifoimkjgepcaaDk
import Derived.Test.YtjifoimkjgepcaaDg
import Derived.Maps.OwnOps
set_option linter.unusedVariables false
set_option linter.unusedSimpArgs false
namespace Go.Proofs.Ytjifoimkjgepcaa.Da
open Go.RowKit Go.ChangeShapes Go.Proofs.Ytjifoimkjgepcaa.K Go.Proofs.YtjifoimkjgepcaaW.PrintWords

def Brs (bb : Nat) (bs : List Nat) (w : World) : Prop := ∀ j (h : j < bs.length), w.cell? ⟨bb, j, none⟩ = some (.int .i64 (bs[j] : Int))
def Kws (kb : Nat) (keys : List ByteArray) (w : World) : Prop := ∀ j (h : j < keys.length), w.cell? ⟨kb, j, none⟩ = some (.string keys[j])
def Ids (ib : Nat) (ids : List Int) (w : World) : Prop := ∀ j (h : j < ids.length), w.cell? ⟨ib, j, none⟩ = some (.int .i64 ids[j])
theorem cell_keep {b : Nat} {w w' : World} (hb : w'.heap[b]? = w.heap[b]?) (j : Nat) : w'.cell? ⟨b, j, none⟩ = w.cell? ⟨b, j, none⟩ := World.cell?_of_block (w := w) (a := ⟨b, j, none⟩) hb
theorem Brs.keep {b : Nat} {bs : List Nat} {w w' : World} (h : Brs b bs w) (hb : w'.heap[b]? = w.heap[b]?) : Brs b bs w' := fun j hj => (cell_keep hb j).trans (h j hj)
theorem Kws.keep {b : Nat} {bs : List ByteArray} {w w' : World} (h : Kws b bs w) (hb : w'.heap[b]? = w.heap[b]?) : Kws b bs w' := fun j hj => (cell_keep hb j).trans (h j hj)
theorem Ids.keep {b : Nat} {bs : List Int} {w w' : World} (h : Ids b bs w) (hb : w'.heap[b]? = w.heap[b]?) : Ids b bs w' := fun j hj => (cell_keep hb j).trans (h j hj)

/-- What the first loop has collected: the characters in a row of their own, the groups in a map. -/
def charsK (keys : List ByteArray) (i : Nat) (bs : List Nat) : List Nat := charsF (bs.map fun j => chAt (kAt keys j) i)
def CharR (base : Nat) (cs : List Nat) (v : Value) (w : World) : Prop := w.ownsRow base tU8 1 v cs.length (cs.map fun (c : Nat) => Value.int .u8 c)
theorem CharR.below {base : Nat} {cs : List Nat} {v : Value} {w w' : World} (h : CharR base cs v w) (hb : Below w.heap.size w w') : CharR base cs v w' := own_keep h (fun k hk => hb.block k (World.ownsRow.lt h k hk).2)
theorem Grps.below {base bm n i : Nat} {keys : List ByteArray} {bs : List Nat} {w w' : World} (h : Grps base bm n keys i bs w) (hb : Below w.heap.size w w') : Grps base bm n keys i bs w' :=
  h.keep (fun es c hm => (hb.block bm (lt_of_heap hm)).trans hm) (fun j cur hm => (hb.block j (lt_of_heap hm)).trans hm)
theorem Grps.grown {base base' bm n i m : Nat} {keys : List ByteArray} {bs : List Nat} {w w' : World} {v : Value} {xs : List Value} (h : Grps base bm n keys i bs w) (hg : w.grownBy w' v.ownBlock) (ho : w.ownsRow base' tU8 1 v m xs) : Grps base bm n keys i bs w' :=
  h.keep (fun es c hm => (hg.block bm (lt_of_heap hm) (fun e => by obtain ⟨cur, hc⟩ := own_heap ho e.symm; rw [hm] at hc; cases hc)).trans hm)
    (fun j cur hm => (hg.block j (lt_of_heap hm) (fun e => by obtain ⟨cur', hc⟩ := own_heap ho e.symm; exact typ_ne hm hc (by decide) rfl)).trans hm)
theorem Grps.mono {base bm n n' i : Nat} {keys : List ByteArray} {bs : List Nat} {w : World} (h : Grps base bm n keys i bs w) (hn : n ≤ n') : Grps base bm n' keys i bs w := by
  obtain ⟨D, ⟨es, clock, hb, F, hs, hD, hbb, hlen, hap⟩, h2, h3⟩ := h
  exact ⟨D, ⟨es, clock, hb, F, Nat.le_trans hs hn, hD, hbb, fun x hx zs ho => Nat.le_trans (hlen x hx zs ho) hn, hap⟩, h2, h3⟩
theorem chAt_le (s : ByteArray) (i : Nat) : chAt s i ≤ 255 := by
  unfold chAt
  split
  · have := (s.get! i).toNat_lt; omega
  · exact Nat.zero_le _
theorem chAt_cell (W : World) (s : ByteArray) {i : Nat} (h : i < s.size) : (Lib.bytesWorld W tU8 s).cell? ⟨W.heap.size, i, none⟩ = some (.int .u8 (chAt s i : Int)) := by
  rw [Lib.bytesWorld_cell W tU8 s i h]
  have h' : i < s.data.size := h
  unfold chAt
  rw [if_pos h]
  simp only [ByteArray.get!, List.getD_eq_getElem?_getD, Array.getElem?_toList]
  rw [getElem!_pos s.data i h', Array.getElem?_eq_getElem h']
  rfl
theorem charsK_eq (keys : List ByteArray) (ids : List Int) (i : Nat) (bs : List Nat) : charsK keys i bs = chars (ksOf keys ids i bs) := by
  unfold charsK chars ksOf
  rw [List.map_map]
  congr 1
  refine List.map_congr_left fun j _ => ?_
  simp [head_ks]
theorem Grps.kp {base bm n i dp g : Nat} {keys : List ByteArray} {bs : List Nat} {A : DA} {w w' : World} (h : Grps base bm n keys i bs w) (a : Arr dp g A w) (k : Kp dp g w w') : Grps base bm n keys i bs w' :=
  h.keep (fun es c hm => (k.block bm (lt_of_heap hm) (fun e => by rw [e, a.var] at hm; cases hm) (fun e => by rw [e, a.arr] at hm; cases hm)).trans hm)
    (fun j cur hm => (k.block j (lt_of_heap hm) (typ_ne hm a.var (by decide)) (typ_ne hm a.arr (by decide))).trans hm)
theorem shape_ints {w : World} {base e n : Nat} {q : IntKind} {v : Value} {zs : List Int} (h : w.ownsInts base e q v zs) (hn : zs.length = n) : ∃ A c, v = .slice A n c := by
  rcases h.1.2 with ⟨h1, h0⟩ | ⟨g', cap, cur, h1, _⟩
  · exact ⟨none, 0, by rw [h1, ← hn, h0]⟩
  · exact ⟨_, _, by rw [h1, hn]⟩
theorem cost_without_le (done : List Nat) (ks : Ks) : cost (without done ks) ≤ cost ks := by
  induction ks with
  | nil => exact Nat.le_refl _
  | cons x r ih =>
    obtain ⟨s, id⟩ := x
    cases s with
    | nil => simp [without, cost]; exact ih
    | cons a s =>
      simp only [without]
      split <;> simp [cost] <;> omega
theorem ks_firstE {keys : List ByteArray} {ids : List Int} {i : Nat} {bs : List Nat} (hs : Srt (ksOf keys ids i bs)) (hf : firstE (ksOf keys ids i bs) ≠ none) (h0 : 0 < bs.length) : firstE (ksOf keys ids i bs) = some (idAt ids bs[0]) := by
  obtain ⟨id, r, h1, h2⟩ := firstE_head hs hf
  rw [h2]
  cases bs with
  | nil => simp at h0
  | cons j r' =>
    simp only [ksOf, List.map_cons, List.cons.injEq, Prod.mk.injEq] at h1
    rw [← h1.1.2]
    rfl
theorem zeroInts (w : World) : (zeroValue 29).run Try.prog w = .ok (.slice none 0 0) w := by kernel_rfl
theorem infoInt : (Try.prog.info? tInt).map (fun i => (i.zero, i.size, i.bytes)) = some (some (.int .i64 0), 1, 8) := by kernel_rfl

set_option maxHeartbeats 2000000 in
set_option maxRecDepth 100000 in
theorem add_any (dp kb ib ck ci : Nat) (keys : List ByteArray) (ids : List Int) (hkl : keys.length ≤ 2147483647) (hil : ids.length = keys.length) (hids : ∀ x ∈ ids, 0 ≤ x ∧ x ≤ 2147483647) (hks : ∀ s ∈ keys, s.size ≤ 2147483647) :
    ∀ n, ∀ (p i g bb cb : Nat) (bs : List Nat) (A : DA) (M : Nat) (w : World), cost (ksOf keys ids i bs) + 1 ≤ n → bs ≠ [] → bs.length ≤ 2147483647 → (∀ j ∈ bs, j < keys.length) → Srt (ksOf keys ids i bs) → Byt (ksOf keys ids i bs) → i ≤ 2147483647 →
      Arr dp g A w → Inv A M → M + 256 * (cost (ksOf keys ids i bs) + 1) ≤ 268435456 → Par A → Bare A p → (p = 0 → M = 0 ∧ firstE (ksOf keys ids i bs) = none) →
      Brs bb bs w → Kws kb keys w → Ids ib ids w → bb ≠ dp → bb ≠ g → kb ≠ dp → kb ≠ g → ib ≠ dp → ib ≠ g → bb < w.heap.size → kb < w.heap.size → ib < w.heap.size →
      Calls Try.prog 66 #[.pointer (some ⟨dp, 0, none⟩), .int .i64 p, .int .i64 i, .slice (some ⟨bb, 0, none⟩) bs.length cb, .slice (some ⟨kb, 0, none⟩) keys.length ck, .slice (some ⟨ib, 0, none⟩) ids.length ci] w fun e w' =>
        e = .returned (.tuple #[]) ∧ ∃ A' g', Arr dp g' A' w' ∧ Inv A' (M + 256 * (cost (ksOf keys ids i bs) + 1)) ∧ Ext (fun j => j = p) A A' ∧ Tr A' (fun j => ¬ Us A j ∧ j ≠ 0) p (ksOf keys ids i bs) ∧ (g' = g ∨ w.heap.size ≤ g') ∧ Kp dp g w w' := by
  intro n
  induction n with
  | zero => intros; omega
  | succ n ih =>
    intro p i g bb cb bs A M w hn hbne hbl hbk hsrt hbyt hi31 ha hi hM hpar hbare hp0 hbr hkw hid hbd hbg hkd hkg hidp hidg hbs hksz hisz
    have IH := Lib.hid ih
    have HN := Lib.hid hn
    have HBK := Lib.hid hbk
    have HSRT := Lib.hid hsrt
    have HBYT := Lib.hid hbyt
    have HA := Lib.hid ha
    have HI := Lib.hid hi
    have HM := Lib.hid hM
    have HPAR := Lib.hid hpar
    have HBARE := Lib.hid hbare
    have HP0 := Lib.hid hp0
    have HBR := Lib.hid hbr
    have HKW := Lib.hid hkw
    have HID := Lib.hid hid
    have HIL := Lib.hid hil
    have HIDS := Lib.hid hids
    have HKS := Lib.hid hks
    have HBNE := Lib.hid hbne
    clear ih hn hbk hsrt hbyt ha hi hM hpar hbare hp0 hbr hkw hid hil hids hks hbne
    have hmm := @run_makeMap Try.prog
    have key := @Maps.int_keyed Try.prog tU8 .u8 Try.underlying5
    obtain ⟨i0, hi0, hz0, hz1, hz2⟩ := info_parts infoInt
    go_enter Try.func66, Try.ntmps66
    go_wp2_with fail
    go_loopw [12, 25] (fun v jv wr => ∃ k : Nat, k ≤ bs.length ∧ jv = .int .i64 k ∧ Hid (CharR w.heap.size (charsK keys i (bs.take k)) v wr) ∧ Hid (Grps (w.heap.size + 1) w.heap.size k keys i (bs.take k) wr) ∧ Hid (Below w.heap.size w wr) ∧ Hid (w.heap.size + 1 ≤ wr.heap.size)) (fun _ jv _ => bs.length - (intOf jv).toNat)
    case atStart =>
      refine ⟨0, Nat.zero_le _, rfl, Lib.hid (World.ownsRow_nil _ _ _ _), Lib.hid ⟨.map [], World.ownsGroups_made _ _ _ _ _, Maps.isMap_empty, ?_⟩, Lib.hid ((Below.refl _ _).alloc (Nat.le_refl _) _), Lib.hid (by simp)⟩
      intro ch _
      split <;> rfl
    case round =>
      obtain ⟨k, hk, rfl, HCR, HGR, HBL, HSZ⟩ := hrel
      by_cases hlt : k < bs.length
      · obtain ⟨j, hj⟩ : ∃ j, j = bs[k] := ⟨_, rfl⟩
        have hjl : j < keys.length := by rw [hj]; exact HBK.out _ (List.getElem_mem _)
        obtain ⟨s, hs⟩ : ∃ s, s = kAt keys j := ⟨_, rfl⟩
        have hcj : wr.cell? ⟨bb, k, none⟩ = some (.int .i64 (j : Int)) := by
          rw [hj]
          exact (HBR.out.keep (HBL.out.block bb hbs)) k hlt
        have hcs : wr.cell? ⟨kb, j, none⟩ = some (.string s) := by
          rw [hs, kAt_eq hjl]
          exact (HKW.out.keep (HBL.out.block kb hksz)) j hjl
        have hss : s.size ≤ 2147483647 := by rw [hs, kAt_eq hjl]; exact HKS.out _ (List.getElem_mem _)
        have hcv : ∀ W : World, (convert 9 60 (.string s)).run Try.prog W = .ok (.slice (some ⟨W.heap.size, 0, none⟩) s.size (grownCap W s.size 0 tU8)) (Lib.bytesWorld W tU8 s) := print_bytes 9 60 5 Try.underlying9 Try.underlying60 Try.underlying5 s
        have HJ := Lib.hid hj
        have HS := Lib.hid hs
        clear hj hs
        go_upto_if 37 with fail
        obtain ⟨w1, hw1⟩ : ∃ w1, w1 = Lib.bytesWorld wr tU8 s := ⟨_, rfl⟩
        have hb1 : Below wr.heap.size wr w1 := by rw [hw1]; exact bytes_below (Below.refl _ _) (Nat.le_refl _) _ _
        have hch : i < s.size → w1.cell? ⟨wr.heap.size, i, none⟩ = some (.int .u8 (chAt s i : Int)) := fun h => by rw [hw1]; exact chAt_cell wr s h
        rw [← hw1]
        have HCR1 := Lib.hid (HCR.out.below hb1)
        have HGR1 := Lib.hid (HGR.out.below hb1)
        have HBL1 := Lib.hid (HBL.out.trans (hb1.mono HBL.out.size))
        have HSZ1 : Hid (w.heap.size + 1 ≤ w1.heap.size) := Lib.hid (Nat.le_trans HSZ.out hb1.size)
        have HCH := Lib.hid hch
        clear hw1 hb1 hch hcj hcs hcv HCR HGR HBL HSZ
        go_cut [17] from 26 to 70 (fun v wx => v = .int .u8 (chAt s i : Int) ∧ w1 = wx)
        case first =>
          by_cases his : i < s.size
          · have hch := HCH.out his
            have hd : decide (s.size ≤ i) = false := by simpa using his
            go_wp2_with fail
            go_meet
            exact ⟨rfl, rfl⟩
          · have hd : decide (s.size ≤ i) = true := by simpa using his
            have h0 : chAt s i = 0 := by rw [chAt, if_neg his]
            go_wp2_with fail
            go_meet
            exact ⟨by rw [h0]; rfl, rfl⟩
        case rest =>
          obtain ⟨rfl, rfl⟩ := hcut
          refine (‹∀ (a : Act) (w : World), Code.wp _ _ _ a w → _›) _ _ ?_
          refine wp_seq_k (fun K hK => ?_)
          obtain ⟨c, hc⟩ : ∃ c, c = chAt s i := ⟨_, rfl⟩
          have hc255 : c ≤ 255 := by rw [hc]; exact chAt_le _ _
          rw [← hc]
          have HC := Lib.hid hc
          obtain ⟨cs, hcs⟩ : ∃ cs, cs = charsK keys i (bs.take k) := ⟨_, rfl⟩
          have hcr := HCR1.out
          rw [← hcs] at hcr
          have HCS := Lib.hid hcs
          have HCR2 := Lib.hid hcr
          have hcl : cs.length ≤ 2147483647 := by
            have : ∀ l : List Nat, (charsF l).length ≤ l.length := fun l => by
              refine snoc_ind (P := fun l => (charsF l).length ≤ l.length) (by simp [charsF]) ?_ l
              intro l x ih
              rw [charsF_snoc]
              unfold push
              split
              · simp; omega
              · simp; omega
            have h1 := this ((bs.take k).map fun j => chAt (kAt keys j) i)
            rw [hcs]
            unfold charsK
            simp only [List.length_map, List.length_take] at h1
            omega
          clear hc hcs hcr HCR1
          obtain ⟨i8, hi8, hy0, hy1, hy2⟩ := info_parts (show (Try.prog.info? tU8).map (fun i => (i.zero, i.size, i.bytes)) = some (some (.int .u8 0), 1, 1) by kernel_rfl)
          go_cut [12, 18] from 26 to 70 (fun v _ wx => Hid (CharR w.heap.size (push cs c) v wx) ∧ Hid (Grps (w.heap.size + 1) w.heap.size k keys i (bs.take k) wx) ∧ Hid (Below w.heap.size w wx) ∧ Hid (w.heap.size + 1 ≤ wx.heap.size))
          case first =>
            obtain ⟨Ac, capc, rfl⟩ : ∃ Ac capc, u12 = .slice Ac cs.length capc := by
              rcases HCR2.out.2 with ⟨h, h0⟩ | ⟨g', cap, cur, h, _⟩
              · exact ⟨none, 0, by rw [h, h0]⟩
              · exact ⟨_, _, h⟩
            have HO : Hid (w1.ownsRow w.heap.size tU8 1 (.slice Ac cs.length capc) (cs.map fun (c : Nat) => Value.int .u8 c).length (cs.map fun (c : Nat) => Value.int .u8 c)) := Lib.hid (by rw [List.length_map]; exact HCR2.out)
            have HAp : Hid (Grps (w.heap.size + 1) w.heap.size k keys i (bs.take k) (w1.alloc (.cells #[.int .u8 (c : Int)] tU8))) := Lib.hid (HGR1.out.below ((Below.refl _ _).alloc (Nat.le_refl _) _))
            have HAb : Hid (Below w.heap.size w (w1.alloc (.cells #[.int .u8 (c : Int)] tU8))) := Lib.hid (HBL1.out.alloc HBL1.out.size _)
            have HAl : Hid (((cs.map fun (c : Nat) => Value.int .u8 c).length + 1) * 1 ≤ 140737488355328) := Lib.hid (by rw [List.length_map]; omega)
            have HAs : Hid (w.heap.size ≤ (w1.alloc (.cells #[.int .u8 (c : Int)] tU8)).heap.size) := Lib.hid (by rw [size_alloc]; have := HSZ1.out; omega)
            by_cases hce : cs.length = 0
            · have HCE := Lib.hid hce
              have hd : ((cs.length : Int) == 0) = true := by simp [hce]
              clear hce
              go_wp2_with (at_builtin; refine app1 (w0 := w) w.heap.size rfl _ _ 60 tU8 (.int .u8 0) 1 rfl Try.underlying60 (by kernel_rfl) rfl (by decide) (.slice Ac cs.length capc) (cs.map fun (c : Nat) => Value.int .u8 c) (.int .u8 c) w1.heap.size rfl rfl (cell_new0 _ _ _) rfl (HO.out.alloc _) HAb.out HAs.out HAl.out ?_)
              intro v1 w2 hown1 hb2 hgr hat
              have hpush : push cs c = cs ++ [c] := by
                have : cs = [] := List.eq_nil_of_length_eq_zero HCE.out
                subst this
                rfl
              have HX1 : Hid (CharR w.heap.size (push cs c) v1 w2) := Lib.hid (by rw [hpush]; unfold CharR; simpa using hown1)
              have HX2 := Lib.hid (HAp.out.grown hgr (HO.out.alloc _))
              have HX3 := Lib.hid hb2
              have HX4 : Hid (w.heap.size + 1 ≤ w2.heap.size) := Lib.hid (by have := hgr.size; rw [size_alloc] at this; have := HSZ1.out; omega)
              clear hown1 hb2 hgr hat hpush
              go_wp2_with fail
              go_meet
              exact ⟨HX1, HX2, HX3, HX4⟩
            · obtain ⟨m, hm⟩ : ∃ m, cs.length = m + 1 := ⟨cs.length - 1, by omega⟩
              have hm1 : (cs.length : Int) - 1 = (m : Int) := by omega
              have hml : m < cs.length := by omega
              have hd : ((cs.length : Int) == 0) = false := by rw [beq_eq_false_iff_ne]; omega
              obtain ⟨gc, rfl⟩ : ∃ gc, Ac = some ⟨gc, 0, none⟩ := by
                rcases HO.out.2 with ⟨_, h0⟩ | ⟨g', cap, cur, h, _⟩
                · rw [List.length_map] at h0; omega
                · injection h with h1 _ _
                  exact ⟨g', h1⟩
              obtain ⟨y, hy⟩ : ∃ y, y = cs[m] := ⟨_, rfl⟩
              have hcy : w1.cell? ⟨gc, m, none⟩ = some (.int .u8 (y : Int)) := by
                have hmm2 : m < cs.length * 1 := by omega
                have h1 := World.ownsRow.cellAt (size := 1) HCR2.out m hmm2
                rw [h1, hy]
                simp [hml]
              have hlast : cs.getLast? = some y := by
                rw [List.getLast?_eq_getElem?, hy, show cs.length - 1 = m by omega, List.getElem?_eq_getElem hml]
              have HLAST := Lib.hid hlast
              clear hm hce hy hlast
              by_cases hyc : y = c
              · have hne : ((y : Int) != (c : Int)) = false := by simp [hyc]
                have HYC := Lib.hid hyc
                clear hyc
                go_wp2_with fail
                go_meet
                refine ⟨Lib.hid ?_, HGR1, HBL1, HSZ1⟩
                rw [push, if_pos (by rw [HLAST.out, HYC.out])]
                exact HCR2.out
              · have hne : ((y : Int) != (c : Int)) = true := by rw [bne_iff_ne]; omega
                have HYC := Lib.hid hyc
                clear hyc
                go_wp2_with (at_builtin; refine app1 (w0 := w) w.heap.size rfl _ _ 60 tU8 (.int .u8 0) 1 rfl Try.underlying60 (by kernel_rfl) rfl (by decide) (.slice (some ⟨gc, 0, none⟩) cs.length capc) (cs.map fun (c : Nat) => Value.int .u8 c) (.int .u8 c) w1.heap.size rfl rfl (cell_new0 _ _ _) rfl (HO.out.alloc _) HAb.out HAs.out HAl.out ?_)
                intro v1 w2 hown1 hb2 hgr hat
                have hpush : push cs c = cs ++ [c] := by
                  rw [push, if_neg (by rw [HLAST.out]; intro e; injection e with e; exact HYC.out e)]
                have HX1 : Hid (CharR w.heap.size (push cs c) v1 w2) := Lib.hid (by rw [hpush]; unfold CharR; simpa using hown1)
                have HX2 := Lib.hid (HAp.out.grown hgr (HO.out.alloc _))
                have HX3 := Lib.hid hb2
                have HX4 : Hid (w.heap.size + 1 ≤ w2.heap.size) := Lib.hid (by have := hgr.size; rw [size_alloc] at this; have := HSZ1.out; omega)
                clear hown1 hb2 hgr hat hpush
                go_wp2_with fail
                go_meet
                exact ⟨HX1, HX2, HX3, HX4⟩
          case rest =>
            obtain ⟨HX1, HX2, HX3, HX4⟩ := hcut
            have hks2 : ksOf keys ids i bs = ksOf keys ids i (bs.take k) ++ ((bl s).drop i, idAt ids j) :: ksOf keys ids i (bs.drop (k + 1)) := by
              have h1 : bs = bs.take k ++ j :: bs.drop (k + 1) := by rw [HJ.out, ← List.drop_eq_getElem_cons hlt, List.take_append_drop]
              conv => lhs; rw [h1]
              simp only [ksOf, List.map_append, List.map_cons, HS.out]
            have hc0 : c = 0 ↔ s.size ≤ i := by
              rw [HC.out]
              constructor
              · intro h0
                refine Nat.le_of_not_lt fun hl => ?_
                have h1 := HBYT.out ((bl s).drop i, idAt ids j) (by rw [hks2]; simp) (s.get! i).toNat (by rw [bl_at s hl]; simp)
                rw [chAt, if_pos hl] at h0
                omega
              · intro h0
                rw [chAt, if_neg (by omega)]
            have htk : bs.take (k + 1) = bs.take k ++ [j] := by rw [HJ.out, List.take_succ_eq_append_getElem hlt]
            have HCK : Hid (charsK keys i (bs.take (k + 1)) = push cs c) := Lib.hid (by
              rw [htk, HCS.out, HC.out]
              unfold charsK
              rw [List.map_append, List.map_cons, List.map_nil, charsF_snoc, HS.out])
            have HTK := Lib.hid htk
            have HC0 := Lib.hid hc0
            clear hks2 hc0 htk HCR2 HGR1 HBL1 HSZ1 HCH
            by_cases hcz : c = 0
            · have hle := HC0.out.1 hcz
              have hd : ((c : Int) != 0) = false := by simp [hcz]
              have HGN : Hid (Grps (w.heap.size + 1) w.heap.size (k + 1) keys i (bs.take (k + 1)) wc) := Lib.hid (by
                obtain ⟨D, h1, h2, h3⟩ := HX2.out.mono (Nat.le_succ k)
                refine ⟨D, h1, h2, fun ch hch => ?_⟩
                rw [h3 ch hch, HTK.out, grp_skip (by rw [← HS.out]; exact hle)])
              clear hle hcz
              go_wp2_with fail
              exact ⟨⟨k + 1, by omega, by go_num, Lib.hid (by rw [HCK.out]; exact HX1.out), HGN, HX3, HX4⟩, by simp [intOf]; omega⟩
            · have hgt : i < s.size := Nat.lt_of_not_le fun h => hcz (HC0.out.2 h)
              have hd : ((c : Int) != 0) = true := by rw [bne_iff_ne]; omega
              have HGT := Lib.hid hgt
              have HCZ := Lib.hid hcz
              obtain ⟨D, hown, hism, hatD⟩ := HX2.out
              have HISM := Lib.hid hism
              have HATD := Lib.hid hatD
              have HOWN := Lib.hid hown
              have hwf : (Lit.int .u8 (c : Int)).wf = true := WalkArith.wf_u8 (by omega)
              have HKEY := Lib.hid (Maps.keyOf_int_mk (P := Try.prog) Try.underlying5 hwf)
              clear hgt hcz hism hatD hown hwf
              have hwi : (Lit.int .i64 (j : Int)).wf = true := WalkArith.wf_i64 (by omega)
              have HWI := Lib.hid hwi
              clear hwi
              go_wp2_with (first
                | (at_lookup; refine wpList_lookup_groups _ rfl _ _ 157 rfl tU8 29 tInt .i64 key Try.underlying157 (zeroInts _) (w.heap.size + 1) w.heap.size k _ rfl HOWN.out (by unfold maxLen; omega) _ _ rfl HKEY.out ?_; intro v zs hat hoi hzl hback)
                | (at_builtin; refine wpList_append_own_at _ rfl _ _ 29 rfl (w.heap.size + 1) tInt i0 (.int .i64 0) 1 8 Try.underlying29 hi0 hz0 hz1 hz2 rfl (by decide) _ _ _ rfl (hoi.1.alloc _) ⟨wc.heap.size, 0, none⟩ 1 1 [.int .i64 (j : Int)] rfl rfl (cell_one_new _ _ _) (ints_oneCell .i64 [(j : Int)]) (by unfold maxLen; omega) (by omega) (by have := HX4.out; simp; omega) ?_; intro v' w2 hown' hgrow hnil hloc)
                | (at_mapUpdate; refine wpList_mapUpdate_back _ rfl _ _ _ 157 rfl hback rfl rfl rfl ((World.grownBy_alloc _ _ _).trans hgrow) (hoi.appended hown' HWI.out) (by simp; omega) (hloc.imp id (fun h => ⟨_, h, by simp⟩)) ?_; intro w3 hown2 hgrow2))
              have hall := (World.grownBy_alloc wc _ _).trans hgrow
              have hz : zs = IntL (grp keys i c (bs.take k)) := by
                have h1 := HATD.out c hc255
                rw [if_neg HCZ.out] at h1
                exact found_zs hoi (h1.symm.trans hat)
              refine ⟨⟨k + 1, by omega, by go_num, Lib.hid ?_, Lib.hid ?_, Lib.hid (HX3.out.groups hoi hall hgrow2 HX3.out.size (Nat.le_succ _) (Nat.le_refl _)), Lib.hid (Nat.le_trans HX4.out (Nat.le_trans hall.size hgrow2.size))⟩, by simp [intOf]; omega⟩
              · rw [HCK.out]
                have h1 : w2.ownsRow w.heap.size tU8 1 _ _ _ := World.ownsRow.kept HX1.out hall (by
                  cases hv : (u12 : Value).ownBlock with
                  | none => exact .inl rfl
                  | some gx =>
                    refine .inr (fun e => ?_)
                    obtain ⟨c1, h1⟩ := own_heap HX1.out hv
                    obtain ⟨c2, h2⟩ := own_heap hoi.1 e.symm
                    exact typ_ne h1 h2 (by decide) rfl)
                refine World.ownsRow.kept h1 hgrow2 ?_
                cases hv : (u12 : Value).ownBlock with
                | none => exact .inl rfl
                | some gx =>
                  refine .inr (fun e => ?_)
                  injection e with e
                  obtain ⟨c1, h2⟩ := own_heap h1 hv
                  obtain ⟨es, clock, h3, _⟩ := HOWN.out
                  have h4 : w2.heap[w.heap.size]? = some (.map es clock) := (hall.block _ (lt_of_heap h3) (fun e' => by
                    obtain ⟨c2, h5⟩ := own_heap hoi.1 e'.symm
                    rw [h3] at h5
                    cases h5)).trans h3
                  rw [e, h4] at h2
                  cases h2
              · refine ⟨_, hown2, HISM.out.put _ _, ?_⟩
                rw [HTK.out]
                exact grp_put HISM.out HATD.out (by have := HCZ.out; omega) hc255 ⟨by rw [← HS.out]; exact HGT.out, by rw [← HS.out, HC.out, chAt, if_pos HGT.out]⟩ hz (hoi.appended hown' HWI.out)
      · obtain rfl : k = bs.length := by omega
        have hcr := HCR.out
        have hgr := HGR.out
        rw [List.take_length] at hcr hgr
        have HCR2 := Lib.hid hcr
        have HGR2 := Lib.hid hgr
        clear hcr hgr HCR HGR
        obtain ⟨ks, hks⟩ : ∃ ks, ks = ksOf keys ids i bs := ⟨_, rfl⟩
        obtain ⟨cs, hcs⟩ : ∃ cs, cs = chars ks := ⟨_, rfl⟩
        have hck : charsK keys i bs = cs := by rw [hcs, hks]; exact charsK_eq _ _ _ _
        have hksne : ks ≠ [] := by
          rw [hks]
          intro h
          have := congrArg List.length h
          simp [ksOf] at this
          exact HBNE.out this
        have hcr2 := HCR2.out
        rw [hck] at hcr2
        have hsrt := HSRT.out
        have hbyt := HBYT.out
        have hm := HM.out
        have hp0 := HP0.out
        have hn' := HN.out
        rw [← hks] at hsrt hbyt hm hp0 hn'
        have hasc : cs.Pairwise (· < ·) := by rw [hcs]; exact chars_asc hsrt
        have h255 : ∀ c ∈ cs, c ≤ 255 := by rw [hcs]; exact chars_le hbyt
        have hclen : cs.length ≤ 256 := asc_len hasc 255 h255
        have hcne : 0 < cs.length := by rw [hcs]; exact chars_ne hksne
        obtain ⟨gc, capc, rfl⟩ : ∃ gc capc, u12 = .slice (some ⟨gc, 0, none⟩) cs.length capc := by
          rcases hcr2.2 with ⟨_, h0⟩ | ⟨g', cap, cur, h, _⟩
          · omega
          · exact ⟨_, _, h⟩
        obtain ⟨curc, hgc⟩ := own_heap hcr2 rfl
        have ha1 : Arr dp g A wr := HA.out.keep (HBL.out.block dp (lt_of_heap HA.out.var)) (HBL.out.block g (lt_of_heap HA.out.arr))
        have hchs : Chars gc cs wr := fun j hj => by
          have hj1 : j < cs.length * 1 := by omega
          rw [World.ownsRow.cellAt (size := 1) hcr2 j hj1]
          simp [hj]
        have hgd : gc ≠ dp := typ_ne hgc ha1.var (by decide)
        have hgg : gc ≠ g := typ_ne hgc ha1.arr (by decide)
        have hgl := lt_of_heap hgc
        have h0 : p = 0 → M = 0 ∧ 1 ≤ cs[0]! := by
          intro hp
          obtain ⟨h1, h2⟩ := hp0 hp
          refine ⟨h1, ?_⟩
          have hm0 : cs[0]! ∈ cs := by rw [getElem!_pos cs 0 hcne]; exact List.getElem_mem _
          rcases Nat.eq_zero_or_pos cs[0]! with hz | hz
          · rw [hz] at hm0
            rw [hcs] at hm0
            exact absurd h2 ((chars_zero hbyt).1 hm0)
          · exact hz
        have HSEEK := Lib.hid (seek_any dp g gc capc A M p cs wr ha1 HI.out (by omega) HBARE.out.1 hchs hgd hgg hgl hcne (by omega) hasc h255 h0)
        have HKSE := Lib.hid hks
        have HCSE := Lib.hid hcs
        have HSR := Lib.hid hsrt
        have HBY := Lib.hid hbyt
        have HMM := Lib.hid hm
        have HNN := Lib.hid hn'
        have HASC := Lib.hid hasc
        have H255 := Lib.hid h255
        have HA1 := Lib.hid ha1
        have HCHS := Lib.hid hchs
        have HGC := Lib.hid hgc
        clear hks hcs hck hksne hcr2 hsrt hbyt hm hp0 hn' hasc h255 ha1 hchs h0 hgc
        go_wp2_with fail
        refine HSEEK.out.mono ?_
        rintro e w2 ⟨rfl, A1, g1, B, ha2, hi2, hop, hg1, hkp⟩
        have HA2 := Lib.hid ha2
        have HI2 := Lib.hid hi2
        have HOP := Lib.hid hop
        have HG1 := Lib.hid hg1
        have HKP := Lib.hid hkp
        clear ha2 hi2 hop hg1 hkp HSEEK
        go_wp2_with fail
        obtain ⟨wo, rfl⟩ : ∃ wo : World, wo = wr := ⟨_, rfl⟩
        have HFE : Hid (∀ h0 : 0 < bs.length, firstE ks ≠ none → firstE ks = some (idAt ids bs[0])) := Lib.hid (by
          intro h0 hf
          have h1 := HSR.out
          rw [HKSE.out] at h1 hf ⊢
          exact ks_firstE h1 hf h0)
        have HU1 : Hid (∀ c ∈ cs, Us A1 (B + c)) := Lib.hid (fun c hc => ⟨(HOP.out.kids c hc).1, .inr (by have := (HOP.out.kids c hc).2.1; omega)⟩)
        have HPU : Hid (Us A1 p) := Lib.hid (HOP.out.ext.us p HBARE.out.1)
        have hB1 : 1 ≤ B := HOP.out.pos
        have HPNE : Hid (∀ c ∈ cs, p ≠ B + c) := Lib.hid (fun c hc e => (HOP.out.kids c hc).2.2.1 (e ▸ HBARE.out.1))
        go_loopw [77] (fun jv wr => ∃ (k : Nat) (A2 : DA) (g2 : Nat), k ≤ cs.length ∧ jv = .int .i64 k ∧ Hid (Arr dp g2 A2 wr) ∧ Hid (Kids A1 A2 B ks (cs.take k)) ∧ Hid (Inv A2 (M + 256 + 256 * (cost ks - cost (without (cs.take k) ks)))) ∧ Hid (g2 = g ∨ wo.heap.size ≤ g2) ∧ Hid (Kp dp g wo wr)) (fun jv _ => cs.length - (intOf jv).toNat)
        case atStart =>
          refine ⟨0, A1, g1, Nat.zero_le _, rfl, HA2, Lib.hid ?_, Lib.hid ?_, HG1, HKP⟩
          · rw [List.take_zero]; exact kids_start _ _ _
          · rw [List.take_zero, cost_nil, Nat.sub_self]; exact HI2.out
        case round =>
          obtain ⟨k, A2, g2, hk, rfl, HA3, HKD, HIV, HG2, HK3⟩ := hrel
          by_cases hlt : k < cs.length
          · obtain ⟨ch, hch⟩ : ∃ ch, ch = cs[k] := ⟨_, rfl⟩
            have hmem : ch ∈ cs := by rw [hch]; exact List.getElem_mem _
            have hch255 : ch ≤ 255 := H255.out ch hmem
            have hcc : wr.cell? ⟨gc, k, none⟩ = some (.int .u8 (ch : Int)) := by
              rw [hch]
              exact (HCHS.out.keep (HK3.out.block gc hgl hgd hgg)) k hlt
            have htk : cs.take (k + 1) = cs.take k ++ [ch] := by rw [hch, List.take_succ_eq_append_getElem hlt]
            have hni : ch ∉ cs.take k := by
              have h1 := HASC.out.sublist (List.take_sublist (k + 1) cs)
              rw [htk] at h1
              intro hm
              have := (List.pairwise_append.1 h1).2.2 ch hm ch (by simp)
              omega
            have hdm : ∀ c ∈ cs.take k, c ∈ cs := fun c hc => List.mem_of_mem_take hc
            have hbp : A2.b p = B := (HKD.out.ext.b p HPU.out (by rintro ⟨c, hc, e⟩; exact HPNE.out c (hdm c hc) e)).trans HOP.out.base
            have hpn : p < A2.n := (HKD.out.ext.us p HPU.out).1
            have hsz2 := HIV.out.size
            obtain ⟨q, hqe⟩ : ∃ q, q = B + ch := ⟨_, rfl⟩
            have huq : Us A2 q := by rw [hqe]; exact HKD.out.ext.us _ (HU1.out ch hmem)
            have hqn : q < A2.n := huq.1
            have hqz : (B : Int) + (ch : Int) = (q : Int) := by omega
            have hBb : (B : Int) ≤ 536870918 := by omega
            have hv2 : wr.cell? ⟨dp, 0, none⟩ = some (.slice (some ⟨g2, 0, none⟩) A2.n A2.n) := HA3.out.cv
            have hb2 : wr.cell? ⟨g2, p * 2, none⟩ = some (.int .i32 (B : Int)) := by rw [← hbp]; exact HA3.out.cb hpn
            have HGR3 := Lib.hid (HGR2.out.kp HA1.out HK3.out)
            obtain ⟨D, hown, hism, hatD⟩ := HGR3.out
            have HATD := Lib.hid hatD
            have HOWN := Lib.hid hown
            have hwf : (Lit.int .u8 (ch : Int)).wf = true := WalkArith.wf_u8 (by omega)
            have HKEY := Lib.hid (Maps.keyOf_int_mk (P := Try.prog) Try.underlying5 hwf)
            have HQE := Lib.hid hqe
            have HTK := Lib.hid htk
            have HNI := Lib.hid hni
            have HDM := Lib.hid hdm
            have HUQ := Lib.hid huq
            have HMEM := Lib.hid hmem
            clear hch hmem htk hni hdm hbp hqe huq hism hatD hown hwf
            by_cases hc0 : ch = 0
            · have HC0 := Lib.hid hc0
              clear hc0
              have HLK : Hid (D.atKey (.int .u8 (ch : Int)) .nil = grpD []) := Lib.hid (by
                have := HATD.out ch hch255
                rwa [if_pos HC0.out] at this)
              have hb0 : 0 < bs.length := List.length_pos_iff.2 HBNE.out
              obtain ⟨j0, hj0⟩ : ∃ j0, j0 = bs[0] := ⟨_, rfl⟩
              have hj0l : j0 < ids.length := by rw [HIL.out, hj0]; exact HBK.out _ (List.getElem_mem _)
              obtain ⟨idv, hidv⟩ : ∃ idv, idv = ids[j0] := ⟨_, rfl⟩
              have hidr : 0 ≤ idv ∧ idv ≤ 2147483647 := by rw [hidv]; exact HIDS.out _ (List.getElem_mem _)
              have hidr1 := hidr.1
              have hidr2 := hidr.2
              have hcb0 : wr.cell? ⟨bb, 0, none⟩ = some (.int .i64 (j0 : Int)) := by
                rw [hj0]
                exact (HBR.out.keep ((HK3.out.block bb (Nat.lt_of_lt_of_le hbs HBL.out.size) hbd hbg).trans (HBL.out.block bb hbs))) 0 hb0
              have hcid : wr.cell? ⟨ib, j0, none⟩ = some (.int .i64 idv) := by
                rw [hidv]
                exact (HID.out.keep ((HK3.out.block ib (Nat.lt_of_lt_of_le hisz HBL.out.size) hidp hidg).trans (HBL.out.block ib hisz))) j0 hj0l
              obtain ⟨x0, hx0⟩ : ∃ x0, wr.cell? ⟨g2, q * 2, none⟩ = some (.int .i32 x0) := ⟨_, HA3.out.cb hqn⟩
              have hfq := HA3.out.f (q * 2)
              have hil0 : ((ids.length : Int) == 0) = false := by rw [beq_eq_false_iff_ne]; omega
              have hj0i : (j0 : Int) < (ids.length : Int) := by omega
              have hb0i : (0 : Int) < (bs.length : Int) := by omega
              have HJ0 := Lib.hid hj0
              have HIDV := Lib.hid hidv
              clear hj0 hidv hidr
              go_wp2_with (at_lookup; refine wpList_lookup_groups _ rfl _ _ 157 rfl tU8 29 tInt .i64 key Try.underlying157 (zeroInts _) (w.heap.size + 1) w.heap.size bs.length D rfl HOWN.out (by unfold maxLen; omega) _ _ rfl HKEY.out ?_; intro v zs hat hoi hzl hback; obtain ⟨Av, cv, rfl⟩ := shape_ints hoi (n := 0) (by rw [found_zs hoi (HLK.out.symm.trans hat)]; rfl); clear hat hoi hzl hback)
              go_region
              have HA4 : Hid (Arr dp g2 (setB A2 q (-idv)) (wr.setCell ⟨g2, q * 2, none⟩ (.int .i32 (-idv))).drew) := Lib.hid (by
                have := HA3.out.set_b hqn (-idv)
                exact ⟨this.var, this.arr⟩)
              have HK4 : Hid (Kp dp g wo (wr.setCell ⟨g2, q * 2, none⟩ (.int .i32 (-idv))).drew) := Lib.hid (HK3.out.trans ((Kp.refl dp g2 wr).set (.inr (.inl rfl)) _) HG2.out).drew
              have HKD4 : Hid (Kids A1 (setB A2 q (-idv)) B ks (cs.take (k + 1))) := Lib.hid (by
                have h0 := HC0.out
                have hm := HMEM.out
                have hn := HNI.out
                have hq := HQE.out
                have h1 := HFE.out hb0 ((chars_zero HBY.out).1 (by rw [← HCSE.out, ← h0]; exact hm))
                have hu := HU1.out ch hm
                rw [h0] at hm hn hq hu
                rw [HTK.out, h0, hq, HIDV.out]
                have hj : j0 < ids.length := hj0l
                rw [← HJ0.out, idAt_eq hj] at h1
                exact kids_leaf HKD.out hB1 hu h1 (fun c hc => HU1.out c (HDM.out c hc)) hn)
              have HIV4 : Hid (Inv (setB A2 q (-idv)) (M + 256 + 256 * (cost ks - cost (without (cs.take (k + 1)) ks)))) := Lib.hid (by
                have e : without (cs.take (k + 1)) ks = without (cs.take k) ks := by
                  rw [HTK.out, HC0.out]
                  exact without_snoc0 _ _ HBY.out
                rw [e]
                have hq := HQE.out
                exact setB_inv HIV.out HUQ.out (by omega) (by omega))
              go_wp2_with fail
              exact ⟨⟨k + 1, setB A2 q (-idv), g2, by omega, by go_num, HA4, HKD4, HIV4, HG2, HK4⟩, by simp [intOf]; omega⟩
            · have hc1 : 1 ≤ ch := by omega
              have HLK : Hid (D.atKey (.int .u8 (ch : Int)) .nil = grpD (IntL (grp keys i ch bs))) := Lib.hid (by
                have := HATD.out ch hch255
                rwa [if_neg hc0] at this)
              obtain ⟨bs', hbs'⟩ : ∃ bs', bs' = grp keys i ch bs := ⟨_, rfl⟩
              have htl : tails ch ks = ksOf keys ids (i + 1) bs' := by rw [HKSE.out, hbs']; exact tails_ks _ _ _ _ _
              have htne : tails ch ks ≠ [] := (chars_kid hc1).1 (by rw [← HCSE.out]; exact HMEM.out)
              have hbne' : bs' ≠ [] := by
                intro h
                rw [h] at htl
                exact htne htl
              have hb0' : 0 < bs'.length := List.length_pos_iff.2 hbne'
              have hbl' : bs'.length ≤ bs.length := by rw [hbs']; exact List.length_filter_le _ _
              have hz0 : ((bs'.length : Int) == 0) = false := by rw [beq_eq_false_iff_ne]; omega
              have hi1 : i + 1 ≤ 2147483647 := by
                obtain ⟨j, hj⟩ := List.exists_mem_of_length_pos hb0'
                rw [hbs'] at hj
                obtain ⟨h1, h2⟩ := List.mem_filter.1 hj
                have h3 := (of_decide_eq_true h2).1
                have h4 := HBK.out j h1
                rw [kAt_eq h4] at h3
                have := HKS.out _ (List.getElem_mem h4)
                omega
              obtain ⟨i1, hi1e⟩ : ∃ i1, i1 = i + 1 := ⟨_, rfl⟩
              have hiz : (i : Int) + 1 = (i1 : Int) := by omega
              have hi1b : i1 ≤ 2147483647 := by omega
              rw [← hi1e] at htl
              clear hi1 hi1e
              have HBS := Lib.hid hbs'
              have HTL := Lib.hid htl
              have HTN := Lib.hid htne
              have HBN' := Lib.hid hbne'
              clear hbs' htl htne hbne' hc0
              go_upto_if 96 with (at_lookup; refine wpList_lookup_groups _ rfl _ _ 157 rfl tU8 29 tInt .i64 key Try.underlying157 (zeroInts _) (w.heap.size + 1) w.heap.size bs.length D rfl HOWN.out (by unfold maxLen; omega) _ _ rfl HKEY.out ?_; intro v zs hat hoi hzl hback; obtain ⟨Av, cv, rfl⟩ := shape_ints hoi (n := bs'.length) (by rw [found_zs hoi (HLK.out.symm.trans hat), IntL_length, HBS.out]); clear hat hoi hzl hback)
              go_wp2_with (at_lookup; refine wpList_lookup_groups _ rfl _ _ 157 rfl tU8 29 tInt .i64 key Try.underlying157 (zeroInts _) (w.heap.size + 1) w.heap.size bs.length D rfl HOWN.out (by unfold maxLen; omega) _ _ rfl HKEY.out ?_; intro v zs hat hoi hzl hback; obtain ⟨Av2, cv2, rfl⟩ := shape_ints hoi (n := bs'.length) (by rw [found_zs hoi (HLK.out.symm.trans hat), IntL_length, HBS.out]); have HOI := Lib.hid (And.intro hoi (found_zs hoi (HLK.out.symm.trans hat))); clear hat hoi hzl hback)
              obtain ⟨hoi, hzs⟩ := HOI.out
              obtain ⟨gv, rfl⟩ : ∃ gv, Av2 = some ⟨gv, 0, none⟩ := by
                rcases hoi.1.2 with ⟨h1, h0⟩ | ⟨g', cap, cur, h1, _⟩
                · rw [hzs, IntL_length, ← HBS.out] at h0; omega
                · injection h1 with h2 _ _
                  exact ⟨g', h2⟩
              obtain ⟨curv, hgv⟩ := own_heap hoi.1 rfl
              have hbrs : Brs gv bs' wr := fun j hj => by
                have hzl : zs.length = bs'.length := by rw [hzs, IntL_length, ← HBS.out]
                have h1 := hoi.1
                rw [hzl] at h1
                rw [World.ownsRow.cellAt (size := 1) h1 j (by omega), hzs, ← HBS.out]
                simp [IntL, hj]
              have hkw1 : Kws kb keys wr := HKW.out.keep ((HK3.out.block kb (Nat.lt_of_lt_of_le hksz HBL.out.size) hkd hkg).trans (HBL.out.block kb hksz))
              have hid1 : Ids ib ids wr := HID.out.keep ((HK3.out.block ib (Nat.lt_of_lt_of_le hisz HBL.out.size) hidp hidg).trans (HBL.out.block ib hisz))
              have hgo : ∀ b, b < w.heap.size → b ≠ g → b ≠ g2 := by
                intro b h1 h2 e
                rcases HG2.out with h3 | h3
                · exact h2 (e.trans h3)
                · have := HBL.out.size; omega
              have hcw : cost (without (cs.take (k + 1)) ks) + cost (tails ch ks) + (tails ch ks).length = cost (without (cs.take k) ks) := by
                rw [HTK.out]
                exact cost_without _ _ HNI.out _ hc1
              have hcl1 := cost_without_le (cs.take k) ks
              have htp : 0 < (tails ch ks).length := List.length_pos_iff.2 HTN.out
              have hmm := HMM.out
              have hnn := HNN.out
              have hcall := IH.out q i1 g2 gv cv2 bs' A2 (M + 256 + 256 * (cost ks - cost (without (cs.take k) ks))) wr (by rw [← HTL.out]; omega) HBN'.out (by omega)
                (fun j hj => by rw [HBS.out] at hj; exact HBK.out j (List.mem_filter.1 hj).1) (by rw [← HTL.out]; exact srt_tails HSR.out _) (by rw [← HTL.out]; exact byt_tails HBY.out _) hi1b HA3.out HIV.out (by rw [← HTL.out]; omega)
                ((HPAR.out.ext HOP.out.ext).ext HKD.out.ext) (by rw [HQE.out]; exact kids_bare HOP.out HKD.out HBARE.out.1 HPAR.out HMEM.out HDM.out HNI.out) (fun h => by have := HQE.out; omega)
                hbrs hkw1 hid1 (typ_ne hgv HA3.out.var (by decide)) (typ_ne hgv HA3.out.arr (by decide)) hkd (hgo kb hksz hkg) hidp (hgo ib hisz hidg) (lt_of_heap hgv) (Nat.lt_of_lt_of_le hksz (Nat.le_trans HBL.out.size HK3.out.size)) (Nat.lt_of_lt_of_le hisz (Nat.le_trans HBL.out.size HK3.out.size))
              have HCALL := Lib.hid hcall
              have HCW := Lib.hid hcw
              have HCL1 := Lib.hid hcl1
              have HTP := Lib.hid htp
              clear hcall hcw hcl1 htp hmm hnn hbrs hkw1 hid1 hgo hoi hzs hgv
              go_wp2_with fail
              refine HCALL.out.mono ?_
              rintro e w3 ⟨rfl, A3, g3, h1, h2, h3, h4, h5, h6⟩
              have HY1 := Lib.hid h1
              have HY2 : Hid (Inv A3 (M + 256 + 256 * (cost ks - cost (without (cs.take (k + 1)) ks)))) := Lib.hid (by
                rw [← HTL.out] at h2
                have hcw := HCW.out
                have hcl1 := HCL1.out
                have htp := HTP.out
                have hmm := HMM.out
                have := cost_without_le (cs.take (k + 1)) ks
                exact h2.mono (by omega) (by omega))
              have HY3 : Hid (Kids A1 A3 B ks (cs.take (k + 1))) := Lib.hid (by
                rw [HTK.out]
                rw [← HTL.out] at h4
                rw [HQE.out] at h3 h4
                exact kids_sub HKD.out hB1 (HU1.out ch HMEM.out) hc1 (fun c hc => HU1.out c (HDM.out c hc)) HNI.out h3 h4)
              have HY5 : Hid (g3 = g ∨ wo.heap.size ≤ g3) := Lib.hid (by
                rcases h5 with h | h
                · rw [h]; exact HG2.out
                · exact .inr (Nat.le_trans HK3.out.size h))
              have HY6 := Lib.hid (HK3.out.trans h6 HG2.out)
              clear h1 h2 h3 h4 h5 h6 HCALL
              go_wp2_with fail
              exact ⟨⟨k + 1, A3, g3, by omega, by go_num, HY1, HY3, HY2, HY5, HY6⟩, by simp [intOf]; omega⟩
          · obtain rfl : k = cs.length := by omega
            have hkd1 := HKD.out
            have hiv := HIV.out
            rw [List.take_length] at hkd1 hiv
            obtain ⟨hE, hT⟩ := kids_all HOP.out hkd1 HBARE.out (by rw [HCSE.out]; exact chars_zero HBY.out) (fun c hc => by rw [HCSE.out]; exact chars_kid hc)
            have HE := Lib.hid hE
            have HT := Lib.hid hT
            have hmm := HMM.out
            have HIF : Hid (Inv A2 (M + 256 * (cost ks + 1))) := Lib.hid (hiv.mono (by omega) (by omega))
            clear hkd1 hiv hE hT hmm
            go_wp2_with fail
            go_end0
            refine ⟨rfl, A2, g2, HA3.out, ?_, HE.out, ?_, ?_, ?_⟩
            · rw [← HKSE.out]; exact HIF.out
            · rw [← HKSE.out]; exact HT.out
            · exact HG2.out.imp id (fun h => Nat.le_trans HBL.out.size h)
            · exact (Kp.mk HBL.out.os HBL.out.tape HBL.out.output HBL.out.size (fun k h1 _ _ => HBL.out.block k h1) : Kp dp g w wo).trans HK3.out (.inl rfl)
end Go.Proofs.Ytjifoimkjgepcaa.Da
