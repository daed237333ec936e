/-
  The walks of zzRead where too few bytes are left.
-/
import Derived.Test.YtjifoimkjgepcaaDoorRe
set_option linter.unusedVariables false
set_option linter.unusedSimpArgs false
namespace Go.Proofs.YtjifoimkjgepcaaDoor.Z
open Go.RowKit Go.Proofs.YtjifoimkjgepcaaDoor.K Go.Proofs.YtjifoimkjgepcaaDoorW.PrintWords

/-- A call that ended with one of the package's errors. -/
def ErrRet (e : Ending) (S : Nat → Prop) (w w' : World) : Prop := ∃ t : Addr, e = .returned (.iface tEs (.pointer (some t))) ∧ Keeps S w w'

set_option maxHeartbeats 1000000 in
set_option maxRecDepth 5000 in
theorem short_i64 (rb L cS pos vb off T : Nat) (A : Option Addr) (prev : Int) (p q : Addr) (cells : Array Value) (v0 : Int) (w : World)
    (hr : w.heap[rb]? = some (.cells #[.slice A L cS, .int .i64 pos, .int .i64 prev] tRd (0, 0))) (hvb : w.heap[vb]? = some (.cells cells T (0, 0))) (hoff : cells[off]? = some (.int .i64 v0))
    (hpl : pos ≤ L) (hl : L < pos + 8) (hL : L ≤ cS) (hcS : L ≤ maxLen) (hleft : Left A rb L pos w) (hE : Errs p q w) :
    Calls Tryd.prog 39 #[.iface tpRd (.pointer (some ⟨rb, 0, none⟩)), .pointer (some ⟨vb, off, none⟩)] w fun e w' => ErrRet e (fun i => i = rb) w w' := by
  have hmk : ∀ W : World, (Instr.makeSlice 33 (.int .i64 8) (.int .i64 8)).run Tryd.prog W = .ok (.slice (some ⟨W.heap.size, 0, none⟩) 8 8) (W.alloc (.cells (laid 0 0 8) U8)) := fun W => by
    rw [laid_zero]
    exact run_make_row' (P := Tryd.prog) 33 5 (.int .u8 0) 1 Tryd.underlying33 (by kernel_rfl) rfl .i64 .i64 8 (by omega) (by omega) W
  have hrlt := lt_of_heap hr
  have hcv : w.cell? ⟨vb, off, none⟩ = some (.int .i64 v0) := (cell_block hvb off).trans hoff
  have hR := Lib.hid (show (w.alloc (.cells (laid 0 0 8) U8)).heap[rb]? = _ from blk_alloc hr _)
  have hG := Lib.hid (heap_alloc_new w (.cells (laid 0 0 8) U8))
  have hLF := Lib.hid (show Left A rb L pos (w.alloc (.cells (laid 0 0 8) U8)) from fun h => by
    obtain ⟨ad, cs, h1, h2, h3, h4, h5⟩ := hleft h
    exact ⟨ad, cs, h1, h2, h3, h4, fun j v hj => (World.cell?_alloc_lt _ _ _ (World.block_lt_of_cell? w _ (h5 j v hj))).trans (h5 j v hj)⟩)
  have hE1 := Lib.hid (hE.below (below_alloc (Below.refl _ w) (.cells (laid 0 0 8) U8)))
  have hgE := Lib.hid (show gE ≠ w.heap.size ∧ gU ≠ w.heap.size from ⟨Nat.ne_of_lt hE.lt.1, Nat.ne_of_lt hE.lt.2⟩)
  clear hr hvb hleft hoff hE
  go_enter Tryd.func39, Tryd.ntmps39
  go_wp2_with fail
  refine (size_i64 v0 w).mono ?_
  rintro e w1 ⟨rfl, rfl⟩
  go_wp2_with fail
  refine (readFull_short rb w1.heap.size 8 L cS pos prev A p q _ _ hR.out hG.out (laid_size _ _ _ (Nat.zero_le _)) (by omega) hpl hl hL hcS hLF.out hE1.out hgE.out.1 hgE.out.2).mono ?_
  rintro e w2 ⟨k, t, rfl, hk2⟩
  have HK2 := Lib.hid ((Keeps.of_below (S := fun i => i = rb ∨ i = w1.heap.size) (below_alloc (Below.refl _ w1) _)).trans hk2)
  clear hk2 hR hG hLF hE1
  go_wp2
  go_ret
  exact ⟨t, rfl, HK2.out.mono fun i hi hs => hs.elim id (fun h => absurd hi (by omega))⟩

set_option maxHeartbeats 1000000 in
set_option maxRecDepth 5000 in
theorem short_i32 (rb L cS pos vb off T : Nat) (A : Option Addr) (prev : Int) (p q : Addr) (cells : Array Value) (v0 : Int) (w : World)
    (hr : w.heap[rb]? = some (.cells #[.slice A L cS, .int .i64 pos, .int .i64 prev] tRd (0, 0))) (hvb : w.heap[vb]? = some (.cells cells T (0, 0))) (hoff : cells[off]? = some (.int .i32 v0))
    (hpl : pos ≤ L) (hl : L < pos + 4) (hL : L ≤ cS) (hcS : L ≤ maxLen) (hleft : Left A rb L pos w) (hE : Errs p q w) :
    Calls Tryd.prog 40 #[.iface tpRd (.pointer (some ⟨rb, 0, none⟩)), .pointer (some ⟨vb, off, none⟩)] w fun e w' => ErrRet e (fun i => i = rb) w w' := by
  have hmk : ∀ W : World, (Instr.makeSlice 33 (.int .i64 4) (.int .i64 4)).run Tryd.prog W = .ok (.slice (some ⟨W.heap.size, 0, none⟩) 4 4) (W.alloc (.cells (laid 0 0 4) U8)) := fun W => by
    rw [laid_zero]
    exact run_make_row' (P := Tryd.prog) 33 5 (.int .u8 0) 1 Tryd.underlying33 (by kernel_rfl) rfl .i64 .i64 4 (by omega) (by omega) W
  have hrlt := lt_of_heap hr
  have hcv : w.cell? ⟨vb, off, none⟩ = some (.int .i32 v0) := (cell_block hvb off).trans hoff
  have hR := Lib.hid (show (w.alloc (.cells (laid 0 0 4) U8)).heap[rb]? = _ from blk_alloc hr _)
  have hG := Lib.hid (heap_alloc_new w (.cells (laid 0 0 4) U8))
  have hLF := Lib.hid (show Left A rb L pos (w.alloc (.cells (laid 0 0 4) U8)) from fun h => by
    obtain ⟨ad, cs, h1, h2, h3, h4, h5⟩ := hleft h
    exact ⟨ad, cs, h1, h2, h3, h4, fun j v hj => (World.cell?_alloc_lt _ _ _ (World.block_lt_of_cell? w _ (h5 j v hj))).trans (h5 j v hj)⟩)
  have hE1 := Lib.hid (hE.below (below_alloc (Below.refl _ w) (.cells (laid 0 0 4) U8)))
  have hgE := Lib.hid (show gE ≠ w.heap.size ∧ gU ≠ w.heap.size from ⟨Nat.ne_of_lt hE.lt.1, Nat.ne_of_lt hE.lt.2⟩)
  clear hr hvb hleft hoff hE
  go_enter Tryd.func40, Tryd.ntmps40
  go_wp2_with fail
  refine (size_i32 v0 w).mono ?_
  rintro e w1 ⟨rfl, rfl⟩
  go_wp2_with fail
  refine (readFull_short rb w1.heap.size 4 L cS pos prev A p q _ _ hR.out hG.out (laid_size _ _ _ (Nat.zero_le _)) (by omega) hpl hl hL hcS hLF.out hE1.out hgE.out.1 hgE.out.2).mono ?_
  rintro e w2 ⟨k, t, rfl, hk2⟩
  have HK2 := Lib.hid ((Keeps.of_below (S := fun i => i = rb ∨ i = w1.heap.size) (below_alloc (Below.refl _ w1) _)).trans hk2)
  clear hk2 hR hG hLF hE1
  go_wp2
  go_ret
  exact ⟨t, rfl, HK2.out.mono fun i hi hs => hs.elim id (fun h => absurd hi (by omega))⟩
end Go.Proofs.YtjifoimkjgepcaaDoor.Z
