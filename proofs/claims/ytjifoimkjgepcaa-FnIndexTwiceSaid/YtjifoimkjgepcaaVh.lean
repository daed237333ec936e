/-
  The walks of impl.Index and impl.IndexBytes where the words do not ascend.
-/
import Derived.Test.YtjifoimkjgepcaaVg
import Derived.Test.YtjifoimkjgepcaaGd
set_option linter.unusedVariables false
set_option linter.unusedSimpArgs false
namespace Go.Proofs.Ytjifoimkjgepcaa.Da
open Go.RowKit Go.ChangeShapes Go.Proofs.Ytjifoimkjgepcaa.K Go.Proofs.YtjifoimkjgepcaaW.PrintWords Go.Maps

def Desc (ws : List ByteArray) : Prop := ∃ i, ∃ h : i + 1 < ws.length, ltB ws[i + 1] ws[i] = true
/-- No index is built. -/
def BNo (w : World) (e : Ending) (w' : World) : Prop := ∃ bm p, e = .returned (.tuple #[.agg #[.slice none 0 0, .map (some bm)], .iface 152 (.pointer p)]) ∧ Below w.heap.size w w'
set_option maxHeartbeats 2000000 in
set_option maxRecDepth 100000 in
theorem ixRefuse_any (Ak : Option Addr) (ck : Nat) (ws : List ByteArray) (w : World) (hC : Kd.string.C w Ak ws.length ws) (hd : Desc ws) :
    Calls Try.prog 54 #[.slice Ak ws.length ck] w (BNo w) := by
  have hmm := @run_makeMap Try.prog
  have HC := Lib.hid hC
  have HASC := Lib.hid hd
  clear hC hd
  go_enter Try.func54, Try.ntmps54
  go_upto_region 2 with fail
  obtain ⟨rc, hrc⟩ : ∃ rc, rc = w.heap.size := ⟨_, rfl⟩
  obtain ⟨w1, hw1⟩ : ∃ w1, w1 = ((w.alloc (.cells #[.slice none 0 0, .map none] tIdx)).alloc (.map #[] 0)).alloc (.cells #[.slice none 0 0, .map (some (w.heap.size + 1))] tIdx) := ⟨_, rfl⟩
  have h1 : w1.heap[rc]? = some (.cells #[.slice none 0 0, .map none] tIdx (0, 0)) := by rw [hw1, hrc]; exact heap_old (heap_old (heap_new _ _) _) _
  have h2 : w1.heap[rc + 1 + 1]? = some (.cells #[.slice none 0 0, .map (some (rc + 1))] tIdx (0, 0)) := by
    have := heap_new ((w.alloc (.cells #[.slice none 0 0, .map none] tIdx)).alloc (.map #[] 0)) (.cells #[.slice none 0 0, .map (some (w.heap.size + 1))] tIdx)
    rw [size_alloc, size_alloc, ← hw1, ← hrc] at this
    exact this
  have h3 : w1.ownsMap (H := Unit) Try.prog tI32 (plainElem Try.prog tI32) (rc + 1) 0 (.map []) := by
    have h := World.ownsMap_made (H := Unit) (w.alloc (.cells #[.slice none 0 0, .map none] tIdx)) Try.prog tI32 (plainElem Try.prog tI32)
    rw [size_alloc, ← hrc] at h
    obtain ⟨es, c, hm⟩ := mapAt h
    rw [hw1]
    exact keepMap h (heap_old' _ _ (lt_of_heap hm))
  have hb1 : Below w.heap.size w w1 := by rw [hw1]; exact (((Below.refl _ _).alloc (Nat.le_refl _) _).alloc (by simp) _).alloc (by simp; omega) _
  have hs1 : w1.heap.size = rc + 3 := by rw [hw1, hrc]; simp
  have H1 := Lib.hid h1
  have H2 := Lib.hid h2
  have H3 := Lib.hid h3
  have HB1 := Lib.hid hb1
  have HS1 := Lib.hid hs1
  have HRC := Lib.hid hrc
  have HSY := Lib.hid (sorted_no Ak ck ws w1 (Kd.C_below HC.out hb1) HASC.out)
  rw [← hrc] at hw1 ⊢
  rw [← hw1]
  clear hw1 h1 h2 h3 hb1 hs1 hrc
  go_wp2_with fail
  refine HSY.out.mono ?_
  rintro e w2 ⟨rfl, n2, hn2⟩
  have H12 : Hid (w2.heap[rc]? = some (.cells #[.slice none 0 0, .map none] tIdx (0, 0))) := Lib.hid (by rw [hn2]; exact H1.out)
  have H22 : Hid (w2.heap[rc + 1 + 1]? = some (.cells #[.slice none 0 0, .map (some (rc + 1))] tIdx (0, 0))) := Lib.hid (by rw [hn2]; exact H2.out)
  have H32 : Hid (w2.ownsMap (H := Unit) Try.prog tI32 (plainElem Try.prog tI32) (rc + 1) 0 (.map [])) := Lib.hid (keepMap H3.out (by rw [hn2]; rfl))
  have HB2 : Hid (Below w.heap.size w w2) := Lib.hid (by rw [hn2]; exact pw_below_drewN HB1.out n2)
  have HS2 : Hid (w2.heap.size = rc + 3) := Lib.hid (by rw [hn2]; exact HS1.out)
  clear hn2 H1 H2 H3 HB1 HS1 HSY
  go_upto_region 3 with fail
  refine Gd.WT_start (by as_aux_lemma => kernel_rfl) (by as_aux_lemma => kernel_rfl) (by as_aux_lemma => kernel_rfl) (fun _ _ _ _ h => h) ?_
  have hx0 : w2.drew.cell? ⟨rc + 1 + 1, 0, none⟩ = some (.slice none 0 0) := by rw [show w2.drew.cell? ⟨rc + 1 + 1, 0, none⟩ = w2.cell? ⟨rc + 1 + 1, 0, none⟩ from rfl, cell_of_heap H22.out]; rfl
  have hx1 : w2.drew.cell? ⟨rc + 1 + 1, 1, none⟩ = some (.map (some (rc + 1))) := by rw [show w2.drew.cell? ⟨rc + 1 + 1, 1, none⟩ = w2.cell? ⟨rc + 1 + 1, 1, none⟩ from rfl, cell_of_heap H22.out]; rfl
  have HR := Lib.hid (show w2.drew.heap[rc]? = some (.cells #[.slice none 0 0, .map none] tIdx (0, 0)) from H12.out)
  have HX0 := Lib.hid hx0
  have HX1 := Lib.hid hx1
  have HBD := Lib.hid HB2.out.drew
  generalize w2.drew = wd at HX0 HX1 HR HBD ⊢
  clear hx0 hx1 H12 H22 H32
  refine ⟨(fun w' : World => w'.cell? ⟨rc + 1 + 1, 0, none⟩ = some (.slice none 0 0) ∧ w'.cell? ⟨rc + 1 + 1, 1, none⟩ = some (.map (some (rc + 1))) ∧ Below w.heap.size w w'), ⟨HX0.out, HX1.out, HBD.out⟩, fun hHeld => ?_⟩
  refine Gd.WT_take 0 (v := ?_) (by simp only [List.getElem?_toArray, List.getElem?_cons_succ, List.getElem?_cons_zero]; rfl) (Or.inl ⟨by rfl, ?_⟩) (by assumption) ?_
  rotate_left
  · ((intro w hSw; (try dsimp only at hSw); obtain ⟨hS0, hS1, -⟩ := hSw; go_simp); (try with_reducible rfl))
  try simp only [Act.put, List.foldl_cons, List.foldl_nil, List.setIfInBounds_toArray, List.set_cons_zero, List.set_cons_succ]
  refine Gd.WT_call 1 (by simp only [List.getElem?_toArray, List.getElem?_cons_succ, List.getElem?_cons_zero]; rfl) (by as_aux_lemma => kernel_rfl) (fun K hK => ?_)
  go_simp
  (go_at_call 63; with_reducible refine (errNew_any _ wd).mono ?_)
  rintro e w3 ⟨rfl, hb3⟩
  have HY0 := Lib.hid ((hb3.cell (World.block_lt_of_cell? wd _ HX0.out)).trans HX0.out)
  have HY1 := Lib.hid ((hb3.cell (World.block_lt_of_cell? wd _ HX1.out)).trans HX1.out)
  have HR3 := Lib.hid ((hb3.block rc (lt_of_heap HR.out)).trans HR.out)
  have HB3 := Lib.hid (HBD.out.trans (hb3.mono HBD.out.size))
  clear hb3
  go_simp
  refine hK.out _ _ ?_ (fun hHeld => ?_)
  · exact ⟨HY0.out, HY1.out, HB3.out⟩
  clear hK K
  try simp only [Act.put, List.foldl_cons, List.foldl_nil, List.setIfInBounds_toArray, List.set_cons_zero, List.set_cons_succ]
  refine Gd.WT_call 2 (by simp only [List.getElem?_toArray, List.getElem?_cons_succ, List.getElem?_cons_zero]; rfl) (by as_aux_lemma => kernel_rfl) (fun K hK => ?_)
  have hd0 : w3.cell? ⟨rc, 0, none⟩ = some (.slice none 0 0) := by rw [cell_of_heap HR3.out]; rfl
  have hd1 : w3.cell? ⟨rc, 1, none⟩ = some (.map none) := by rw [cell_of_heap HR3.out]; rfl
  have hg0 : w3.frozen? ⟨rc, 0, none⟩ = false := frozen_of_heap HR3.out 0
  have hg1 : w3.frozen? ⟨rc, 1, none⟩ = false := frozen_of_heap HR3.out 1
  go_simp
  have hr7 : (w3.setCell ⟨rc, 0, none⟩ (.slice none 0 0)).heap[rc]? = some (.cells #[.slice none 0 0, .map none] tIdx (0, 0)) := by rw [heap_set HR3.out]; rfl
  have hr8 : ((w3.setCell ⟨rc, 0, none⟩ (.slice none 0 0)).setCell ⟨rc, 1, none⟩ (.map (some (rc + 1)))).heap[rc]? = some (.cells #[.slice none 0 0, .map (some (rc + 1))] tIdx (0, 0)) := by rw [heap_set hr7]; rfl
  have hb8 := (HB3.out.setCell (p := ⟨rc, 0, none⟩) (by have := HRC.out; show w.heap.size ≤ rc; omega) (.slice none 0 0)).setCell (p := ⟨rc, 1, none⟩) (by have := HRC.out; show w.heap.size ≤ rc; omega) (.map (some (rc + 1)))
  have g0 : ((w3.setCell ⟨rc, 0, none⟩ (.slice none 0 0)).setCell ⟨rc, 1, none⟩ (.map (some (rc + 1)))).cell? ⟨rc, 0, none⟩ = some (.slice none 0 0) := by rw [cell_of_heap hr8]; rfl
  have g1 : ((w3.setCell ⟨rc, 0, none⟩ (.slice none 0 0)).setCell ⟨rc, 1, none⟩ (.map (some (rc + 1)))).cell? ⟨rc, 1, none⟩ = some (.map (some (rc + 1))) := by rw [cell_of_heap hr8]; rfl
  have k0 : ((w3.setCell ⟨rc, 0, none⟩ (.slice none 0 0)).setCell ⟨rc, 1, none⟩ (.map (some (rc + 1)))).cell? ⟨rc + 1 + 1, 0, none⟩ = some (.slice none 0 0) := by
    have hy := HY0.out
    unfold World.cell? at hy ⊢
    rw [show ((w3.setCell ⟨rc, 0, none⟩ (.slice none 0 0)).setCell ⟨rc, 1, none⟩ (.map (some (rc + 1)))).heap[rc + 1 + 1]? = w3.heap[rc + 1 + 1]? by rw [heap_set_ne (by omega), heap_set_ne (by omega)]]
    exact hy
  have k1 : ((w3.setCell ⟨rc, 0, none⟩ (.slice none 0 0)).setCell ⟨rc, 1, none⟩ (.map (some (rc + 1)))).cell? ⟨rc + 1 + 1, 1, none⟩ = some (.map (some (rc + 1))) := by
    have hy := HY1.out
    unfold World.cell? at hy ⊢
    rw [show ((w3.setCell ⟨rc, 0, none⟩ (.slice none 0 0)).setCell ⟨rc, 1, none⟩ (.map (some (rc + 1)))).heap[rc + 1 + 1]? = w3.heap[rc + 1 + 1]? by rw [heap_set_ne (by omega), heap_set_ne (by omega)]]
    exact hy
  generalize (w3.setCell ⟨rc, 0, none⟩ (.slice none 0 0)).setCell ⟨rc, 1, none⟩ (.map (some (rc + 1))) = w8 at hb8 g0 g1 k0 k1 ⊢
  have HB8 := Lib.hid hb8
  clear hr7 hr8 hd0 hd1 hg0 hg1 hb8
  refine hK.out _ _ ?_ (fun hHeld => ?_)
  · exact ⟨k0, k1, HB8.out⟩
  clear hK K k0 k1
  try simp only [Act.put, List.foldl_cons, List.foldl_nil, List.setIfInBounds_toArray, List.set_cons_zero, List.set_cons_succ]
  refine Gd.WT_take 3 (v := ?_) (by simp only [List.getElem?_toArray, List.getElem?_cons_succ, List.getElem?_cons_zero]; rfl) (Or.inl ⟨by rfl, ?_⟩) (by assumption) ?_
  rotate_left
  · ((intro w hSw; (try dsimp only at hSw); go_simp); (try with_reducible rfl))
  try simp only [Act.put, List.foldl_cons, List.foldl_nil, List.setIfInBounds_toArray, List.set_cons_zero, List.set_cons_succ]
  refine Gd.WT_end (by exact Nat.le_refl 4) ?_
  go_wp2_with fail
  exact bodyPost_ret (v := .tuple #[.agg #[.slice none 0 0, .map (some (rc + 1))], .iface 152 (.pointer (some ⟨wd.heap.size, 0, none⟩))]) (by simp [results, Try.results54, go_sem, g0, g1]) rfl ⟨rc + 1, _, rfl, HB8.out⟩
set_option maxHeartbeats 1000000 in
set_option maxRecDepth 100000 in
theorem indexNo_any (Ak An : Option Addr) (ck n cn : Nat) (ws : List ByteArray) (w : World) (hC : Kd.string.C w Ak ws.length ws) (hd : Desc ws) (hl : ws.length ≤ 100000) :
    Calls Try.prog 34 #[.slice Ak ws.length ck, .slice An n cn] w (Refused w) := by
  have HKC := Lib.hid hC
  have HD := Lib.hid hd
  clear hC hd
  go_enter Try.func34, Try.ntmps34
  go_wp2_with fail
  refine (clone_strs Ak ck ws w HKC.out (by omega)).mono ?_
  rintro e w1 ⟨v1, rfl, hr1, hb1⟩
  obtain ⟨A1, c1, rfl, -, hC1⟩ := Kd.R_reads hr1
  have HB1 := Lib.hid hb1
  have HBD := Lib.hid (ixRefuse_any A1 c1 ws w1 hC1 HD.out)
  clear hr1 hb1 hC1
  go_wp2_with fail
  refine HBD.out.mono ?_
  rintro e w2 ⟨bm, p, rfl, hb2⟩
  have HB2 := Lib.hid ((HB1.out.trans (hb2.mono HB1.out.size)).alloc (Nat.le_trans HB1.out.size hb2.size) (.cells #[.slice none 0 0, .map (some bm)] tIdx))
  clear hb2 HBD
  go_wp2_with fail
  go_ret2
  exact ⟨rfl, HB2.out⟩
set_option maxHeartbeats 1000000 in
set_option maxRecDepth 100000 in
theorem indexBytesNo_any (Ak : Option Addr) (ck : Nat) (ws : List ByteArray) (w : World) (hC : Kd.string.C w Ak ws.length ws) (hd : Desc ws) (hl : ws.length ≤ 100000) :
    Calls Try.prog 35 #[.slice Ak ws.length ck] w (Refused w) := by
  have HKC := Lib.hid hC
  have HD := Lib.hid hd
  clear hC hd
  go_enter Try.func35, Try.ntmps35
  go_wp2_with fail
  refine (clone_strs Ak ck ws w HKC.out (by omega)).mono ?_
  rintro e w1 ⟨v1, rfl, hr1, hb1⟩
  obtain ⟨A1, c1, rfl, -, hC1⟩ := Kd.R_reads hr1
  have HB1 := Lib.hid hb1
  have HBD := Lib.hid (ixRefuse_any A1 c1 ws w1 hC1 HD.out)
  clear hr1 hb1 hC1
  go_wp2_with fail
  refine HBD.out.mono ?_
  rintro e w2 ⟨bm, p, rfl, hb2⟩
  have HB2 := Lib.hid ((HB1.out.trans (hb2.mono HB1.out.size)).alloc (Nat.le_trans HB1.out.size hb2.size) (.cells #[.slice none 0 0, .map (some bm)] tIdx))
  clear hb2 HBD
  go_wp2_with fail
  go_ret2
  exact ⟨rfl, HB2.out⟩
end Go.Proofs.Ytjifoimkjgepcaa.Da
