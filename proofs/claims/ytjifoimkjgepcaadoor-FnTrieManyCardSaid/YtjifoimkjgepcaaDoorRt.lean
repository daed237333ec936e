/-
  The walks of (*bytes.Reader).Read and io.ReadFull where as many bytes are left as are asked for.
-/
import Derived.Test.YtjifoimkjgepcaaDoorZx
import Derived.StillTailTactics
import Derived.Deep.RegionWith
import Derived.Laws.CopyOwn
import Derived.Deep.QuietTactic
import Derived.BigQuiet
import Derived.Outline
set_option linter.unusedVariables false
set_option linter.unusedSimpArgs false
namespace Go.Proofs.YtjifoimkjgepcaaDoor.Z
open Go.RowKit Go.Proofs.YtjifoimkjgepcaaDoor.K Go.Proofs.YtjifoimkjgepcaaDoorW.PrintWords

abbrev tRd : Nat := 102
/-- What stands but for the blocks of S. -/
structure Keeps (S : Nat → Prop) (w w' : World) : Prop where
  os : w'.os = w.os
  tape : w'.tape = w.tape
  output : w'.output = w.output
  size : w.heap.size ≤ w'.heap.size
  block : ∀ i, i < w.heap.size → ¬ S i → w'.heap[i]? = w.heap[i]?
theorem Keeps.refl (S : Nat → Prop) (w : World) : Keeps S w w := ⟨rfl, rfl, rfl, Nat.le_refl _, fun _ _ _ => rfl⟩
theorem Keeps.trans {S : Nat → Prop} {a b c : World} (h : Keeps S a b) (k : Keeps S b c) : Keeps S a c :=
  ⟨k.os.trans h.os, k.tape.trans h.tape, k.output.trans h.output, Nat.le_trans h.size k.size, fun i hi hs => (k.block i (Nat.lt_of_lt_of_le hi h.size) hs).trans (h.block i hi hs)⟩
theorem Keeps.mono {S T : Nat → Prop} {a b : World} (h : Keeps S a b) (hs : ∀ i, i < a.heap.size → S i → T i) : Keeps T a b := ⟨h.os, h.tape, h.output, h.size, fun i hi ht => h.block i hi (fun k => ht (hs i hi k))⟩
theorem Keeps.below {S : Nat → Prop} {a b : World} {B : Nat} (h : Keeps S a b) (hs : ∀ i, i < a.heap.size → S i → B ≤ i) (hB : B ≤ a.heap.size) : Below B a b :=
  ⟨h.os, h.tape, h.output, h.size, fun i hi => h.block i (Nat.lt_of_lt_of_le hi hB) (fun k => by have := hs i (Nat.lt_of_lt_of_le hi hB) k; omega)⟩
theorem Keeps.of_below {S : Nat → Prop} {a b : World} (h : Below a.heap.size a b) : Keeps S a b := ⟨h.os, h.tape, h.output, h.size, fun i hi _ => h.block i hi⟩
theorem Keeps.drewN {S : Nat → Prop} {a b : World} (h : Keeps S a b) (n : Nat) : Keeps S a (b.drewN n) := ⟨h.os, h.tape, h.output, h.size, h.block⟩
theorem Keeps.setCell {S : Nat → Prop} {a b : World} (h : Keeps S a b) {p : Addr} (hp : S p.block) (v : Value) : Keeps S a (b.setCell p v) :=
  ⟨h.os, h.tape, h.output, by have := ((Below.refl 0 b).setCell (p := p) (Nat.zero_le _) v).size; exact Nat.le_trans h.size this, fun i hi hs => (Below.heap_setCell b p v i (fun e => hs (e ▸ hp))).trans (h.block i hi hs)⟩
theorem Keeps.setRow {S : Nat → Prop} {a b : World} (h : Keeps S a b) {g : Nat} (hp : S g) (cs : Array Value) : Keeps S a (b.setRow g cs) :=
  ⟨h.os, h.tape, h.output, by simp [World.setRow]; exact h.size, fun i hi hs => (setRow_other b g i cs (fun e => hs (e ▸ hp))).trans (h.block i hi hs)⟩

set_option maxHeartbeats 1000000 in
set_option maxRecDepth 5000 in
theorem reader_read (rb g n c L cS pos : Nat) (prev : Int) (ad : Addr) (cur : Array Value) (cs : List Value) (w : World)
    (hr : w.heap[rb]? = some (.cells #[.slice (some ad) L cS, .int .i64 pos, .int .i64 prev] tRd (0, 0))) (hg : w.heap[g]? = some (.cells cur U8 (0, 0))) (hcur : cur.size = n)
    (hn : 1 ≤ n) (hl : pos + n ≤ L) (hL : L ≤ cS) (hcS : L ≤ maxLen) (hcs : cs.length = n) (h1 : ∀ v ∈ cs, v.oneCell' = true) (had : ad.block ≠ rb)
    (hsrc : ∀ j v, cs[j]? = some v → w.cell? ((ad.add pos).add j) = some v) :
    Calls Tryd.prog 130 #[.pointer (some ⟨rb, 0, none⟩), .slice (some ⟨g, 0, none⟩) n c] w fun e w' => e = .returned (.tuple #[.int .i64 n, .nilIface]) ∧
      w'.heap[rb]? = some (.cells #[.slice (some ad) L cS, .int .i64 (pos + n : Nat), .int .i64 (-1)] tRd (0, 0)) ∧ w'.heap[g]? = some (.cells cs.toArray U8 (0, 0)) ∧ Keeps (fun i => i = rb ∨ i = g) w w' := by
  have hgr : g ≠ rb := by
    rintro rfl
    rw [hr] at hg
    injection hg with hg
    injection hg with _ h2 _
    exact absurd h2 (by decide)
  have c0 : w.cell? ⟨rb, 0, none⟩ = some (.slice (some ad) L cS) := cell_block hr 0
  have c1 : w.cell? ⟨rb, 1, none⟩ = some (.int .i64 pos) := cell_block hr 1
  have c2 : w.cell? ⟨rb, 2, none⟩ = some (.int .i64 prev) := cell_block hr 2
  have f2 := frozen_block hr 2
  have hw : wrap64 ((pos : Int) + n) = ((pos + n : Nat) : Int) := by
    have : L ≤ 9223372036854775807 := by simpa [maxLen] using hcS
    unfold wrap64
    omega
  have hcutF : ∀ W : World, (Instr.slice 33 (.slice (some ad) L cS) (some (.int .i64 pos)) none none).run Tryd.prog W = .ok (.slice (some (ad.add pos)) (L - pos) (cS - pos)) W := fun W => by
    obtain ⟨i0, hi0, hsz0⟩ : ∃ i, Tryd.prog.info? 5 = some i ∧ i.size = 1 := ⟨_, rfl, rfl⟩
    rw [cut_from (P := Tryd.prog) 33 5 .i64 Tryd.underlying33 hi0 1 hsz0 (some ad) L cS (pos : Int) (by omega) (by omega) W]
    rw [if_neg (by simp; omega)]
    simp
  go_enter Tryd.func130, Tryd.ntmps130
  go_wp2_with fail
  go_quiet (fail)
  have hL' : ¬ (L ≤ pos) := by omega
  generalize hwq : w.drewN nq = w1
  have k1 : Keeps (fun i => i = rb ∨ i = g) w w1 := hwq ▸ (Keeps.refl _ w).drewN nq
  have r1 : w1.heap[rb]? = some (.cells #[.slice (some ad) L cS, .int .i64 pos, .int .i64 prev] tRd (0, 0)) := hwq ▸ hr
  have g1 : w1.heap[g]? = some (.cells cur U8 (0, 0)) := hwq ▸ hg
  have d2 : w1.cell? ⟨rb, 2, none⟩ = some (.int .i64 prev) := cell_block r1 2
  have e2 := frozen_block r1 2
  have hsrc1 := Lib.hid (show ∀ j v, cs[j]? = some v → w1.cell? ((ad.add pos).add j) = some v from fun j v h => hwq ▸ hsrc j v h)
  have K1 := Lib.hid k1
  have R1 := Lib.hid r1
  have G1 := Lib.hid g1
  clear hwq c0 c1 c2 f2 hr hg hsrc k1 r1 g1
  go_wp2_with fail
  generalize hwq : w1.setCell ⟨rb, 2, none⟩ (.int .i64 (-1)) = w2
  have k2 : Keeps (fun i => i = rb ∨ i = g) w w2 := hwq ▸ K1.out.setCell (.inl rfl) _
  have r2 : w2.heap[rb]? = some (.cells #[.slice (some ad) L cS, .int .i64 pos, .int .i64 (-1)] tRd (0, 0)) := hwq ▸ Lib.heap_setCell_same R1.out _
  have g2 : w2.heap[g]? = some (.cells cur U8 (0, 0)) := hwq ▸ (Below.heap_setCell _ _ _ _ hgr).trans G1.out
  have hsrc2 := Lib.hid (show ∀ j v, cs[j]? = some v → w2.cell? ((ad.add pos).add j) = some v from fun j v h => hwq ▸ (by
    rw [World.cell?_setCell_other _ _ _ _ (fun e => had ((show ((ad.add pos).add j).block = ad.block by unfold Addr.add; split <;> rename_i h <;> (first | rfl | (split <;> rfl))).symm.trans (congrArg Addr.block e).symm))]
    exact hsrc1.out j v h))
  have e0 : w2.cell? ⟨rb, 0, none⟩ = some (.slice (some ad) L cS) := cell_block r2 0
  have e1 : w2.cell? ⟨rb, 1, none⟩ = some (.int .i64 pos) := cell_block r2 1
  have K2 := Lib.hid k2
  have R2 := Lib.hid r2
  have G2 := Lib.hid g2
  clear hwq d2 e2 hsrc1 K1 R1 G1 k2 r2 g2
  go_still_tail 10, (by kernel_rfl)
  change wpList _ _ _ _ _ w2.drew
  generalize hwq : w2.drew = w3
  have k3 : Keeps (fun i => i = rb ∨ i = g) w w3 := hwq ▸ (K2.out.trans ((Keeps.refl _ w2).drewN 1))
  have r3 : w3.heap[rb]? = some (.cells #[.slice (some ad) L cS, .int .i64 pos, .int .i64 (-1)] tRd (0, 0)) := hwq ▸ R2.out
  have g3 : w3.heap[g]? = some (.cells cur U8 (0, 0)) := hwq ▸ G2.out
  have hsrc3 := Lib.hid (show ∀ j v, cs[j]? = some v → w3.cell? ((ad.add pos).add j) = some v from fun j v h => hwq ▸ hsrc2.out j v h)
  have K3 := Lib.hid k3
  have R3 := Lib.hid r3
  have G3 := Lib.hid g3
  clear hwq e0 e1 hsrc2 K2 R2 G2 k3 r3 g3
  refine wpList_copy_own rfl (.tmp 20) (.tmp 29) 33 33 rfl 5 Tryd.underlying33 (by kernel_rfl) g 0 n c (ad.add pos) (L - pos) (cS - pos) rfl rfl cur U8 G3.out cs (by rw [hcs]; exact (Nat.min_eq_right (by omega)).symm) hsrc3.out (by omega) h1 ?_
  have hrow : (cur.toList.take 0 ++ (cs ++ cur.toList.drop (0 + cs.length))).toArray = cs.toArray := by
    rw [List.drop_of_length_le (by rw [Array.length_toList]; omega)]
    simp
  rw [hrow, hcs]
  generalize hwq : w3.setRow g cs.toArray = w4
  have k4 : Keeps (fun i => i = rb ∨ i = g) w w4 := hwq ▸ K3.out.setRow (.inr rfl) _
  have r4 : w4.heap[rb]? = some (.cells #[.slice (some ad) L cS, .int .i64 pos, .int .i64 (-1)] tRd (0, 0)) := hwq ▸ (setRow_other _ _ _ _ (Ne.symm hgr)).trans R3.out
  have g4 : w4.heap[g]? = some (.cells cs.toArray U8 (0, 0)) := hwq ▸ setRow_heap _ _ _ _ _ _ G3.out
  have e1 : w4.cell? ⟨rb, 1, none⟩ = some (.int .i64 pos) := cell_block r4 1
  have f1 := frozen_block r4 1
  have K4 := Lib.hid k4
  have R4 := Lib.hid r4
  have G4 := Lib.hid g4
  clear hwq hrow hsrc3 K3 R3 G3 k4 r4 g4
  go_wp2_with fail
  rw [hw]
  go_ret2
  refine ⟨rfl, Lib.heap_setCell_same R4.out _, (Below.heap_setCell _ _ _ _ hgr).trans G4.out, K4.out.setCell (.inl rfl) _⟩

abbrev tpRd : Nat := 71
theorem reader_nilAhead (a : Addr) (F : Nat) (h : 8 ≤ F) (w : World) : (nilAhead F tpRd (.pointer (some a)) "Read").run Tryd.prog w = .ok (some false) w := by
  obtain ⟨k, rfl⟩ : ∃ k, F = k + 8 := ⟨F - 8, by omega⟩
  kernel_rfl
theorem reader_method (a : Addr) (F : Nat) (h : 8 ≤ F) (w : World) : (method F tpRd (.pointer (some a)) "Read").run Tryd.prog w = .ok (130, .pointer (some a)) w := by
  obtain ⟨k, rfl⟩ : ∃ k, F = k + 8 := ⟨F - 8, by omega⟩
  kernel_rfl

set_option maxHeartbeats 1000000 in
set_option maxRecDepth 5000 in
theorem readAtLeast_full (rb g n c L cS pos : Nat) (prev : Int) (ad : Addr) (cur : Array Value) (cs : List Value) (w : World)
    (hr : w.heap[rb]? = some (.cells #[.slice (some ad) L cS, .int .i64 pos, .int .i64 prev] tRd (0, 0))) (hg : w.heap[g]? = some (.cells cur U8 (0, 0))) (hcur : cur.size = n) (hnc : n ≤ c) (hc : c ≤ 9223372036854775807)
    (hn : 1 ≤ n) (hl : pos + n ≤ L) (hL : L ≤ cS) (hcS : L ≤ maxLen) (hcs : cs.length = n) (h1 : ∀ v ∈ cs, v.oneCell' = true) (had : ad.block ≠ rb)
    (hsrc : ∀ j v, cs[j]? = some v → w.cell? ((ad.add pos).add j) = some v) :
    Calls Tryd.prog 76 #[.iface tpRd (.pointer (some ⟨rb, 0, none⟩)), .slice (some ⟨g, 0, none⟩) n c, .int .i64 n] w fun e w' => e = .returned (.tuple #[.int .i64 n, .nilIface]) ∧
      w'.heap[rb]? = some (.cells #[.slice (some ad) L cS, .int .i64 (pos + n : Nat), .int .i64 (-1)] tRd (0, 0)) ∧ w'.heap[g]? = some (.cells cs.toArray U8 (0, 0)) ∧ Keeps (fun i => i = rb ∨ i = g) w w' := by
  have HSRC := Lib.hid hsrc
  have HR := Lib.hid hr
  have HG := Lib.hid hg
  clear hsrc hr hg
  have hcutF : ∀ W : World, (Instr.slice 33 (.slice (some ⟨g, 0, none⟩) n c) (some (.int .i64 0)) none none).run Tryd.prog W = .ok (.slice (some ⟨g, 0, none⟩) n c) W := fun W => by
    obtain ⟨i0, hi0, hsz0⟩ : ∃ i, Tryd.prog.info? 5 = some i ∧ i.size = 1 := ⟨_, rfl, rfl⟩
    rw [cut_from (P := Tryd.prog) 33 5 .i64 Tryd.underlying33 hi0 1 hsz0 (some ⟨g, 0, none⟩) n c 0 (by omega) (by omega) W]
    rw [if_neg (by simp; omega)]
    rfl
  have hna := reader_nilAhead ⟨rb, 0, none⟩
  have hme := reader_method ⟨rb, 0, none⟩
  go_enter Tryd.func76, Tryd.ntmps76
  go_wp2
  go_loopw [6, 7] (fun x y wr => y = .nilIface ∧ ((x = .int .i64 0 ∧ wr = w) ∨ (x = .int .i64 n ∧ Hid (wr.heap[rb]? = some (.cells #[.slice (some ad) L cS, .int .i64 (pos + n : Nat), .int .i64 (-1)] tRd (0, 0)) ∧ wr.heap[g]? = some (.cells cs.toArray U8 (0, 0)) ∧ Keeps (fun i => i = rb ∨ i = g) w wr)))) (fun x _ _ => n - (intOf x).toNat)
  case atStart => exact ⟨rfl, .inl ⟨rfl, rfl⟩⟩
  case round =>
    obtain ⟨rfl, ⟨rfl, rfl⟩ | ⟨rfl, H⟩⟩ := hrel
    · have hn0 : (0 : Int) < n := by omega
      go_wp2_with fail
      go_region_with (go_at_call 130; refine (reader_read rb g n c L cS pos prev ad cur cs _ ?_ ?_ hcur hn hl hL hcS hcs h1 had ?_).mono ?_; exact HR.out; exact HG.out; exact HSRC.out; rintro e w2 ⟨rfl, hrest⟩; have HW2 := Lib.hid hrest; clear hrest)
      all_goals
        go_wp2
        refine ⟨⟨rfl, .inr ⟨by go_num, Lib.hid ⟨HW2.out.1, HW2.out.2.1, ((Keeps.refl _ wr).drewN 1).trans HW2.out.2.2⟩⟩⟩, ?_⟩
        simp [intOf]
        omega
    · go_wp2
      go_ret2
      exact ⟨rfl, H.out⟩

set_option maxRecDepth 5000 in
theorem readFull_full (rb g n c L cS pos : Nat) (prev : Int) (ad : Addr) (cur : Array Value) (cs : List Value) (w : World)
    (hr : w.heap[rb]? = some (.cells #[.slice (some ad) L cS, .int .i64 pos, .int .i64 prev] tRd (0, 0))) (hg : w.heap[g]? = some (.cells cur U8 (0, 0))) (hcur : cur.size = n) (hnc : n ≤ c) (hc : c ≤ 9223372036854775807)
    (hn : 1 ≤ n) (hl : pos + n ≤ L) (hL : L ≤ cS) (hcS : L ≤ maxLen) (hcs : cs.length = n) (h1 : ∀ v ∈ cs, v.oneCell' = true) (had : ad.block ≠ rb)
    (hsrc : ∀ j v, cs[j]? = some v → w.cell? ((ad.add pos).add j) = some v) :
    Calls Tryd.prog 64 #[.iface tpRd (.pointer (some ⟨rb, 0, none⟩)), .slice (some ⟨g, 0, none⟩) n c] w fun e w' => e = .returned (.tuple #[.int .i64 n, .nilIface]) ∧
      w'.heap[rb]? = some (.cells #[.slice (some ad) L cS, .int .i64 (pos + n : Nat), .int .i64 (-1)] tRd (0, 0)) ∧ w'.heap[g]? = some (.cells cs.toArray U8 (0, 0)) ∧ Keeps (fun i => i = rb ∨ i = g) w w' := by
  have H0 := Lib.hid (fun W (h : W = w) => h ▸ readAtLeast_full rb g n c L cS pos prev ad cur cs w hr hg hcur hnc hc hn hl hL hcS hcs h1 had hsrc)
  clear hr hg hcur h1 hsrc
  go_enter Tryd.func64, Tryd.ntmps64
  go_wp2_with fail
  refine (H0.out w rfl).mono ?_
  rintro e w2 ⟨rfl, h⟩
  have H := Lib.hid h
  clear h
  go_wp2
  go_ret2
  exact ⟨rfl, H.out⟩
end Go.Proofs.YtjifoimkjgepcaaDoor.Z
