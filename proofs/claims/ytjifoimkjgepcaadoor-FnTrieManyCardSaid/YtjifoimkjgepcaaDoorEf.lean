/-
  The walk of laws.builds.
-/
import Derived.Test.YtjifoimkjgepcaaDoorEe
import Derived.Test.YtjifoimkjgepcaaDoorEp
set_option linter.unusedVariables false
set_option linter.unusedSimpArgs false
namespace Go.Proofs.YtjifoimkjgepcaaDoor.Da
open Go.RowKit Go.ChangeShapes Go.Proofs.YtjifoimkjgepcaaDoor.K Go.Proofs.YtjifoimkjgepcaaDoorW.PrintWords

def bKeys : List ByteArray := [⟨#[97]⟩, ⟨#[97, 98]⟩]
def bIds : List Int := [3, 5]
theorem b_ord : Ord bKeys false := by
  refine ⟨by decide, fun i hi => ?_⟩
  have hi' : i < 2 := hi
  have h0 : kAt bKeys 0 = ⟨#[97]⟩ := rfl
  have h1 : kAt bKeys 1 = ⟨#[97, 98]⟩ := rfl
  have hc : i = 0 ∨ i = 1 := by omega
  rcases hc with rfl | rfl
  · refine ⟨by rw [h0, ByteArray.toList_eq]; rfl, by rw [h0]; intro a ha; simp [bl] at ha; omega, fun h => absurd h (by omega)⟩
  · refine ⟨by rw [h1, ByteArray.toList_eq]; rfl, by rw [h1]; intro a ha; simp [bl] at ha; omega, fun _ => ⟨?_, by simp⟩⟩
    rw [h1, show 1 - 1 = 0 from rfl, h0]
    unfold ltB
    rw [ByteArray.toList_eq, ByteArray.toList_eq]
    rfl
theorem b_keys : Keys bKeys bIds := keys_of b_ord (by decide) rfl (by decide)
theorem b_ans : ansF (ksAll bKeys bIds) ⟨#[97, 98]⟩ = ((5, true), (5, true), [(3, 1), (5, 2)], [(3, 1), (5, 2)]) := by rfl

def bIn : List ByteArray := [⟨#[97, 98]⟩]
def bHits : List Hit := [(3, 1), (5, 2)]
theorem b_asked : Asked bIn := by
  refine asked_one ?_ (by decide)
  intro a ha
  simp [bl] at ha
  omega
theorem eqFound_run (a : Int) (b : Bool) (W : World) : (Op.equalIn 10000 48 (.agg #[.int .i64 a, .bool b]) (.agg #[.int .i64 a, .bool b])).run Tryd.prog W = .ok true W := by
  have h1 : (Op.equalIn 9999 3 (.int .i64 a) (.int .i64 a)).run Tryd.prog W = .ok true W := by
    have := run_equalIn_int (P := Tryd.prog) W 9998 3 .i64 .i64 a a Tryd.underlying3
    simpa using this
  have h2 : (Op.equalIn 9999 4 (.bool b) (.bool b)).run Tryd.prog W = .ok true W := by
    have := run_equalIn_bool (P := Tryd.prog) W 9998 4 b b Tryd.underlying4
    simpa using this
  exact eqA_of Tryd.underlying48 (by kernel_rfl) (eqf_cons (r := true) (s := true) rfl (a := .int .i64 a) (by kernel_rfl) (b := .int .i64 a) (by kernel_rfl) h1 (eqf_last rfl (a := .bool b) (by kernel_rfl) (b := .bool b) (by kernel_rfl) h2))
theorem b_hits (w : World) : kHit.C (w.alloc (.cells #[.int .i64 3, .int .i64 1, .int .i64 5, .int .i64 2] tHit)) (some ⟨w.heap.size, 0, none⟩) bHits.length bHits := by
  have hm : ∀ W (h : Hit), kHit.K W h [.int .i64 h.1, .int .i64 h.2] := fun W h => ⟨[.int .i64 h.1], [.int .i64 h.2], rfl, rfl, rfl⟩
  exact C_of_block (cs := [.int .i64 3, .int .i64 1, .int .i64 5, .int .i64 2]) (heap_new w _) (((Reps.none _ _).snoc (hm _ (3, 1)) rfl).snoc (hm _ (5, 2)) rfl) (by decide)
/-- What builds lays. -/
def bBlocks : List Obj := [.cells #[.string ⟨#[97]⟩, .string ⟨#[97, 98]⟩] 9, .cells #[.int .i64 3, .int .i64 5] 3, .cells #[.string ⟨#[97, 98]⟩] 9]
theorem b_laid (w : World) : Kd.string.C (allocs w bBlocks) (some ⟨w.heap.size, 0, none⟩) bKeys.length bKeys ∧ (Kd.int .i64).C (allocs w bBlocks) (some ⟨w.heap.size + 1, 0, none⟩) bIds.length bIds ∧ Kd.string.C (allocs w bBlocks) (some ⟨w.heap.size + 2, 0, none⟩) bIn.length bIn ∧ Below w.heap.size w (allocs w bBlocks) := by
  have b0 : (allocs w bBlocks).heap[w.heap.size]? = some (.cells #[.string ⟨#[97]⟩, .string ⟨#[97, 98]⟩] 9) := allocs_new w bBlocks 0 _ rfl
  have b1 : (allocs w bBlocks).heap[w.heap.size + 1]? = some (.cells #[.int .i64 3, .int .i64 5] 3) := allocs_new w bBlocks 1 _ rfl
  have b2 : (allocs w bBlocks).heap[w.heap.size + 2]? = some (.cells #[.string ⟨#[97, 98]⟩] 9) := allocs_new w bBlocks 2 _ rfl
  exact ⟨C_of_block (cs := [.string ⟨#[97]⟩, .string ⟨#[97, 98]⟩]) b0 (reps_strs _ bKeys) (by decide), C_of_block (cs := [.int .i64 3, .int .i64 5]) b1 (reps_ints _ _ bIds) (by decide), C_of_block (cs := [.string ⟨#[97, 98]⟩]) b2 (reps_strs _ bIn) (by decide), allocs_below _ _⟩

set_option maxHeartbeats 1000000 in
set_option maxRecDepth 100000 in
theorem builds_any (w : World) : Calls Tryd.prog 15 #[] w fun e w' => e = .returned (.bool true) ∧ Below w.heap.size w w' := by
  go_enter Tryd.func15, Tryd.ntmps15
  go_wp2_with fail
  obtain ⟨W2, hW2⟩ : ∃ W2, W2 = allocs w bBlocks := ⟨_, rfl⟩
  obtain ⟨hK, hI, hN, hB⟩ := b_laid w
  rw [← hW2] at hK hI hN hB
  have hW3 : W2 = ((w.alloc (.cells #[.string ⟨#[97]⟩, .string ⟨#[97, 98]⟩] 9)).alloc (.cells #[.int .i64 3, .int .i64 5] 3)).alloc (.cells #[.string ⟨#[97, 98]⟩] 9) := hW2
  rw [← hW3]
  clear hW2 hW3
  obtain ⟨kb, hkb⟩ : ∃ kb, kb = w.heap.size := ⟨_, rfl⟩
  obtain ⟨ib, hib⟩ : ∃ ib, ib = w.heap.size + 1 := ⟨_, rfl⟩
  obtain ⟨nb, hnb⟩ : ∃ nb, nb = w.heap.size + 1 + 1 := ⟨_, rfl⟩
  rw [show w.heap.size + 2 = w.heap.size + 1 + 1 from rfl, ← hnb] at hN
  rw [← hnb]
  rw [← hib] at hI ⊢
  rw [← hkb] at hK ⊢
  have HB := Lib.hid hB
  clear hB hkb hib hnb
  refine (trie_any (some ⟨kb, 0, none⟩) (some ⟨ib, 0, none⟩) (some ⟨nb, 0, none⟩) 2 2 1 bKeys bIds bIn W2 b_keys hK hI hN b_asked).mono ?_
  rintro e w3 ⟨v, rfl, hr, hb⟩
  obtain ⟨A, c, rfl, -, hat⟩ := ansR_at hr
  have HB3 := Lib.hid (HB.out.trans (hb.mono HB.out.size))
  obtain ⟨ad, rfl, A1, c1, A2, c2, h0, h1, h2, h3, h4, h5, hR1, hR2⟩ := hat 0 (by decide)
  have hz : (0 * 6 : Nat) = 0 := rfl
  have he : ad.add 0 = ad := by cases ad; simp [Addr.add]
  rw [hz, he] at h0 h1 h2 h3 h4 h5
  have ha : (List.map (ansF (ksAll bKeys bIds)) bIn)[0] = ((5, true), (5, true), bHits, bHits) := b_ans
  rw [ha] at h0 h1 h2 h3 h4 h5 hR1 hR2
  have hll : (List.map (ansF (ksAll bKeys bIds)) bIn).length = 1 := rfl
  rw [hll]
  have hC1 := (Kd.R_reads' hR1).2.2
  have HC1 := Lib.hid hC1
  have hl2 : bHits.length = 2 := rfl
  have heq := eqFound_run 5 true
  clear hr hb hat hR1 hR2 hC1 hll hK hI hN
  dsimp only at h0 h1 h2 h3 h4 h5
  rw [hl2] at h4 h5
  go_wp2_with fail
  have hD := b_hits w3
  have HBa := Lib.hid ((HB3.out.alloc HB3.out.size (.cells #[.int .i64 3, .int .i64 1, .int .i64 5, .int .i64 2] tHit)))
  refine (sameHit_eq A1 (some ⟨w3.heap.size, 0, none⟩) c1 2 bHits _ (Kd.C_alloc HC1.out _) hD).mono ?_
  rintro e w4 ⟨rfl, hb⟩
  have HB4 := Lib.hid (HBa.out.trans (hb.mono HBa.out.size))
  clear hb hD
  go_wp2_with fail
  go_ret
  exact ⟨rfl, HB4.out⟩
end Go.Proofs.YtjifoimkjgepcaaDoor.Da
