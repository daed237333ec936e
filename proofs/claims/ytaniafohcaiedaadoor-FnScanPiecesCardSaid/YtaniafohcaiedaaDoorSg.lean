/-
  The walk of laws.parts, and of the guards of splitters.
-/
import Derived.Test.YtaniafohcaiedaaDoorSd
import Derived.Test.YtaniafohcaiedaaDoorSameStr
set_option linter.unusedVariables false
set_option linter.unusedSimpArgs false
namespace Go.Proofs.YtaniafohcaiedaaDoor.Sn
open Go.RowKit Go.Proofs.YtaniafohcaiedaaDoor.K Go.Proofs.YtaniafohcaiedaaDoorW.PrintWords

theorem ascii_decodes {s : ByteArray} {w w0 : World} {g C : Nat} (hs : s.size ≤ 9223372036854775807) (h : ∀ j, j < s.size → w0.cell? ⟨g, j, none⟩ = some (.int .u8 (bt s j))) (ha : ∀ j : Nat, j < s.size → bt s j < 128) : DecodesT w0 g s.size C (fun q => (bt s q, 1)) := by
  intro q hq
  refine ⟨Nat.one_pos, by show q + 1 ≤ s.size; omega, fun W hW => ?_⟩
  exact (decode_ascii ⟨g, q, none⟩ (s.size - q) (C - q) (bt s q) W (by omega) (by omega) (bt_range s q).1 (ha q hq) ((hW.cell (World.block_lt_of_cell? _ _ (h q hq))).trans (h q hq))).mono fun e w' ⟨he, hw⟩ => ⟨he, by subst hw; exact Below.refl _ _⟩

abbrev T3 : ByteArray := ⟨#[97, 46, 98]⟩
abbrev dec3 : Nat → Int × Nat := fun q => (bt T3 q, 1)
theorem g1_a : g1 [46] [] 100 (fun p => dec3 (0 + p)) (T3.size - 0) 0 0 = (2, true) := by
  have hz : T3.size - 0 = 3 := rfl
  rw [hz, g1, dif_pos (by decide), if_pos (by decide), g1, dif_pos (by decide), if_neg (by decide), g2, dif_pos (by decide), if_neg (by decide)]
  rfl
theorem g1_b : g1 [46] [] 100 (fun p => dec3 (0 + 2 + p)) (T3.size - (0 + 2)) 0 0 = (1, false) := by
  have hz : T3.size - (0 + 2) = 1 := rfl
  rw [hz, g1, dif_pos (by decide), if_pos (by decide), g1, dif_neg (by decide)]
  rfl
theorem sents3 : sents [46] [] 100 dec3 T3 0 = [⟨#[97, 46]⟩, ⟨#[98]⟩] := by
  rw [sents, g1_a, dif_pos (by decide), sents, g1_b, dif_pos (by decide), sents, dif_neg (by decide)]
  rfl

set_option maxHeartbeats 1000000 in
set_option maxRecDepth 5000 in
theorem parts_any (w : World) : Calls Tryd.prog 25 #[] w fun e w' => e = .returned (.bool true) ∧ Below w.heap.size w w' := by
  have hD : (Kd.int .i32).C (w.alloc (.cells #[.int .i32 46] 21)) (some ⟨w.heap.size, 0, none⟩) ([46] : List Int).length [46] := C_of_block (cs := [.int .i32 46]) (heap_new w _) (reps_ints _ _ [46]) (by decide)
  have hS := sentences_any (some ⟨w.heap.size, 0, none⟩) none 1 0 100 [46] [] T3 dec3 _ hD (Kd.C_nil _ _) (by decide) (by decide) (by decide) (fun w0 C hb hc hC => ascii_decodes (w := w) (by decide) hc (by decide))
  rw [sents3] at hS
  unfold splV at hS
  have HS := Lib.hid hS
  clear hD hS
  go_enter Tryd.func25, Tryd.ntmps25
  go_wp2_with fail
  refine HS.out.mono ?_
  rintro e w1 ⟨v, rfl, hR, hb1⟩
  obtain ⟨A1, c1, rfl, hc1, hC1⟩ := Kd.R_reads hR
  have HL1 := Lib.hid (((Below.refl _ w).alloc (Nat.le_refl _) _).trans (hb1.mono (by simp)))
  have HC1 := Lib.hid hC1
  have hz1 := HL1.out.size
  clear hR hC1 hb1 HS
  go_wp2_with fail
  have k1 : Kd.string.C (w1.alloc (.cells #[.string ⟨#[97, 46]⟩, .string ⟨#[98]⟩] 9)) (some ⟨w1.heap.size, 0, none⟩) ([⟨#[97, 46]⟩, ⟨#[98]⟩] : List ByteArray).length [⟨#[97, 46]⟩, ⟨#[98]⟩] :=
    C_of_block (cs := [.string ⟨#[97, 46]⟩, .string ⟨#[98]⟩]) (heap_new w1 _) (reps_strs _ [⟨#[97, 46]⟩, ⟨#[98]⟩]) (by decide)
  refine (sameStr_any A1 _ c1 2 [⟨#[97, 46]⟩, ⟨#[98]⟩] [⟨#[97, 46]⟩, ⟨#[98]⟩] _ (Kd.C_alloc HC1.out _) k1).mono ?_
  rintro e w2 ⟨rfl, hb2⟩
  have HL2 := Lib.hid ((HL1.out.alloc hz1 _).trans (hb2.mono (by simp; omega)))
  clear hb2 k1
  go_wp2_with fail
  go_ret
  exact ⟨by simp, HL2.out⟩
end Go.Proofs.YtaniafohcaiedaaDoor.Sn
