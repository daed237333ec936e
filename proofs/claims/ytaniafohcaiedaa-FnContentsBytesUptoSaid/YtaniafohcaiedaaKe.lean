/-
  The walk of laws.keeps: two rows are read.
-/
import Derived.Test.YtaniafohcaiedaaCb2
import Derived.Test.YtaniafohcaiedaaSameStr
import Derived.Deep.RegionWith
import Derived.Lib.SlBytesConst
set_option linter.unusedVariables false
set_option linter.unusedSimpArgs false
namespace Go.Proofs.Ytaniafohcaiedaa.Tx
open Go.RowKit Go.Proofs.Ytaniafohcaiedaa.K Go.Proofs.YtaniafohcaiedaaW.PrintWords Go.Proofs.Ytaniafohcaiedaa.Z

set_option maxHeartbeats 400000 in
theorem clone_bytes (ad : Addr) (c : Nat) (xs : List Int) (w : World) (hC : (Kd.int .u8).C w (some ad) xs.length xs) (hb : xs.length ≤ 140737488355328) :
    Calls Try.prog 61 #[.slice (some ad) xs.length c] w fun e w' => ∃ v, e = .returned v ∧ (Kd.int .u8).R U8 w' w.heap.size (fun _ => True) v xs ∧ Below w.heap.size w w' := by
  have q := fun (w : World) (a : Option Addr) (n c n' c' : Nat) => Lib.run_eql_slice_nil (P := Try.prog) w _ _ a n c n' c' Try.underlying45
  have HC := Lib.hid hC
  clear hC
  go_enter Try.func61, Try.ntmps61
  go_wp2_with (at_builtin; refine Kd.R_append_rows (Kd.int .u8) (Rr := (Kd.int .u8).K (w.alloc (.cells #[] U8))) (w0 := w) w.heap.size rfl _ _ 45 5 (.int .u8 0) 1 rfl Try.underlying45 (by kernel_rfl) rfl (by decide) (by decide) (.slice (some ⟨w.heap.size, 0, none⟩) 0 0) [] xs (some ad) xs.length c (fun _ => True) (fun _ => False) rfl rfl (R_empty _ _ _ _ (Nat.le_refl _)) (Kd.C_alloc HC.out _) (fun _ _ h => h) (fun _ h => h.elim) (fun _ _ => trivial) ((Below.refl _ _).alloc (Nat.le_refl _) _) (by simp) (by simpa using hb) ?_)
  intro v1 w1 hR hB hg hat
  go_wp2
  go_ret
  exact ⟨v1, rfl, hR, hB⟩

set_option maxHeartbeats 1000000 in
set_option maxRecDepth 5000 in
theorem sameLists_eq (A B : Option Addr) (c c' : Nat) (xs : List (List ByteArray)) (w : World) (hC : (Kd.slice 9 Kd.string).C w A xs.length xs) (hD : (Kd.slice 9 Kd.string).C w B xs.length xs) :
    Calls Try.prog 42 #[.slice A xs.length c, .slice B xs.length c'] w fun e w' => e = .returned (.bool true) ∧ Below w.heap.size w w' := by
  have hm := hC.2.1
  have HC := Lib.hid hC
  have HD := Lib.hid hD
  clear hC hD
  go_enter Try.func42, Try.ntmps42
  go_wp2
  go_loopw [13] (fun i wr => ∃ k : Nat, k ≤ xs.length ∧ i = .int .i64 k ∧ Hid (Below w.heap.size w wr)) (fun i _ => xs.length - (intOf i).toNat)
  case atStart => exact ⟨0, Nat.zero_le _, rfl, Lib.hid (Below.refl _ _)⟩
  case round =>
    obtain ⟨k, hk, rfl, hbel⟩ := hrel
    by_cases hlt : k < xs.length
    · obtain ⟨ad, A', a', rfl, hs, _, hC'⟩ := rows_at (Kd.C_below HC.out hbel.out) k hlt
      obtain ⟨bd, B', b', rfl, hs2, _, hD'⟩ := rows_at (Kd.C_below HD.out hbel.out) k hlt
      have HC' := Lib.hid hC'
      have HD' := Lib.hid hD'
      clear hC' hD'
      have p0 : (0 : Int) ≤ k := by omega
      have p1 : (k : Int) < (xs.length : Int) := by omega
      have hszr := hbel.out.size
      go_wp2
      go_region_with (go_at_call 55; refine (sameStr_any A' B' a' b' xs[k] xs[k] _ ?_ ?_).mono ?_; exact HC'.out; exact HD'.out; rintro e w2 ⟨rfl, hw2⟩; have HW2 := Lib.hid hw2; clear hw2; rw [decide_eq_true rfl])
      all_goals
        go_wp2
        exact ⟨⟨k + 1, by omega, by go_num, Lib.hid (hbel.out.trans ((show Below wr.heap.size wr w2 from (pw_below_drewN (Below.refl _ wr) 1).trans HW2.out).mono hszr))⟩, by simp [intOf]; omega⟩
    · go_wp2
      go_ret
      exact ⟨rfl, hbel.out⟩

abbrev L0 : List UInt8 := [97, 7, 98, 10, 99]
abbrev N0 : List Int := [97, 7, 98, 10, 99]
abbrev S1 : List ByteArray := [ofL [97], ofL [98]]
abbrev S2 : List ByteArray := [ofL [99]]
theorem sp0 : (splitC 10 L0).map ofL = [ofL [97, 7, 98], ofL [99]] := rfl
theorem sp1 : (splitC 7 [97, 7, 98]).map ofL = S1 := rfl
theorem sp2 : (splitC 7 [99]).map ofL = S2 := rfl

set_option maxHeartbeats 2000000 in
set_option maxRecDepth 5000 in
theorem newContents_keeps (ad : Addr) (c : Nat) (w : World) (hC : (Kd.int .u8).C w (some ad) N0.length N0) :
    Calls Try.prog 60 #[.slice (some ad) 5 c] w fun e w' => ∃ A c', e = .returned (.slice A 2 c') ∧ (Kd.slice 9 Kd.string).C w' A [S1, S2].length [S1, S2] ∧ Below w.heap.size w w' := by
  have hcv : (convert 45 9 (.slice (some ad) 5 c)).run Try.prog w = .ok (.string (ofL L0)) w := by
    obtain ⟨ad', had, hcells⟩ := hC.2.2 (by decide)
    obtain rfl := Option.some.inj had
    have hs : ∀ i (hi : i < 5), w.cell? (ad.add i) = some (.int .u8 (N0.getD i 0)) := by
      intro i hi
      obtain ⟨cs, hl, hk, hh⟩ := hcells i (N0.getD i 0) (by
        have : i = 0 ∨ i = 1 ∨ i = 2 ∨ i = 3 ∨ i = 4 := by omega
        rcases this with rfl | rfl | rfl | rfl | rfl <;> rfl)
      have hk' : cs = [.int .u8 (N0.getD i 0)] := hk
      subst hk'
      have := hh 0 _ rfl
      have e : (Kd.int .u8).sz = 1 := rfl
      rw [e, Nat.mul_one, Nat.add_zero] at this
      exact this
    have hsp : ad.spot = none := by
      have h0 := hs 0 (by omega)
      have hz : ad.add 0 = ad := by simp [Addr.add]
      rw [hz] at h0
      unfold World.cell? at h0
      split at h0
      · split at h0
        · cases h0
        · rename_i h; simpa using h
      · cases h0
    obtain ⟨bk, o, sp⟩ := ad
    obtain rfl : sp = none := hsp
    have := run_convert_bytes_arg (P := Try.prog) w 45 5 Try.underlying45 Try.underlying5 bk o 5 c N0 rfl (fun i hi => by
      have h := hs i hi
      rwa [show (⟨bk, o, none⟩ : Addr).add i = ⟨bk, o + i, none⟩ by unfold Addr.add; split <;> simp_all] at h) 9 Try.underlying9
    rw [this]
    rfl
  have hmk : ∀ W : World, (Instr.makeSlice 22 (.int .i64 2) (.int .i64 2)).run Try.prog W = .ok (.slice (some ⟨W.heap.size, 0, none⟩) 2 2) (W.alloc (.cells #[.slice none 0 0, .slice none 0 0] 31)) := fun W => by
    have h : madeCells #[Value.slice none 0 0] 2 = #[.slice none 0 0, .slice none 0 0] := by kernel_rfl
    rw [← h]
    exact run_make_row' (P := Try.prog) 22 31 (.slice none 0 0) 24 Try.underlying22 (by kernel_rfl) rfl .i64 .i64 2 (by omega) (by omega) W
  clear hC
  go_enter Try.func60, Try.ntmps60
  go_wp2_with fail
  refine (split_any L0 10 w (by decide)).mono ?_
  rintro e w1 ⟨v1, rfl, hR1, hl1⟩
  rw [sp0] at hR1
  obtain ⟨A1, c1, rfl, _, hC1⟩ := Kd.R_reads hR1
  have HC1 := Lib.hid hC1
  have HL1 := Lib.hid hl1
  clear hR1 hC1 hl1 hcv
  go_wp2
  have HA := Lib.hid (heap_alloc_new w1 (.cells #[.slice none 0 0, .slice none 0 0] 31))
  have HLA := Lib.hid (below_alloc (Below.refl w1.heap.size w1) (.cells #[.slice none 0 0, .slice none 0 0] 31))
  generalize hwq : w1.alloc (.cells #[.slice none 0 0, .slice none 0 0] 31) = w2 at HA HLA ⊢
  have hs2 : w1.heap.size + 1 ≤ w2.heap.size := by rw [← hwq, size_alloc]; exact Nat.le_refl _
  clear hwq
  go_loopw [17] (fun i wr => Hid (Below w1.heap.size w1 wr) ∧ w1.heap.size + 1 ≤ wr.heap.size ∧ ((i = .int .i64 0 ∧ Hid (wr.heap[w1.heap.size]? = some (.cells #[.slice none 0 0, .slice none 0 0] 31 (0, 0)))) ∨
    (i = .int .i64 1 ∧ ∃ A5 c5, Hid (wr.heap[w1.heap.size]? = some (.cells #[.slice A5 2 c5, .slice none 0 0] 31 (0, 0))) ∧ Hid (Kd.string.R 9 wr (w1.heap.size + 1) (fun _ => True) (.slice A5 2 c5) S1)) ∨
    (i = .int .i64 2 ∧ ∃ A5 c5 A6 c6, Hid (wr.heap[w1.heap.size]? = some (.cells #[.slice A5 2 c5, .slice A6 1 c6] 31 (0, 0))) ∧ Hid (Kd.string.R 9 wr (w1.heap.size + 1) (fun _ => True) (.slice A5 2 c5) S1) ∧ Hid (Kd.string.R 9 wr (w1.heap.size + 1) (fun _ => True) (.slice A6 1 c6) S2)))) (fun i _ => 2 - (intOf i).toNat)
  case atStart => exact ⟨HLA, hs2, .inl ⟨rfl, HA⟩⟩
  case round =>
    obtain ⟨hbel, hszr, ⟨rfl, hblk⟩ | ⟨rfl, A5, c5, hblk, hR5⟩ | ⟨rfl, A5, c5, A6, c6, hblk, hR5, hR6⟩⟩ := hrel
    · obtain ⟨ad1, rfl, hs⟩ := strs_at (Kd.C_below HC1.out hbel.out) 0 (by decide)
      have hs' : wr.cell? ad1 = some (.string (ofL [97, 7, 98])) := by
        have hz : ad1.add 0 = ad1 := by simp [Addr.add]
        rw [hz] at hs
        exact hs
      clear hs
      go_wp2_with fail
      refine (split_any [97, 7, 98] 7 wr (by decide)).mono ?_
      rintro e w3 ⟨v3, rfl, hR3, hl3⟩
      rw [sp1] at hR3
      obtain ⟨A5, c5, hv3⟩ := Kd.R_slice hR3
      subst hv3
      have hb3 : w3.heap[w1.heap.size]? = _ := (hl3.block _ (by omega)).trans hblk.out
      have hc3 : w3.cell? ⟨w1.heap.size, 0, none⟩ = some (.slice none 0 0) := cell_block hb3 0
      have hf3 := frozen_block hb3 0
      have HR3 := Lib.hid (Kd.R_lower hR3 hszr)
      have HB3 := Lib.hid hb3
      have HL3 := Lib.hid (hbel.out.trans (hl3.mono hbel.out.size))
      have hsz3 := hl3.size
      clear hR3 hb3 hl3 hs'
      go_wp2
      refine ⟨⟨Lib.hid (HL3.out.setCell (p := ⟨w1.heap.size, 0, none⟩) (Nat.le_refl _) _), Nat.le_trans (Nat.le_trans hszr hsz3) ((Below.refl 0 w3).setCell (p := ⟨w1.heap.size, 0, none⟩) (Nat.zero_le _) _).size, .inr (.inl ⟨rfl, A5, c5, Lib.hid (Lib.heap_setCell_same HB3.out _), Lib.hid ?_⟩)⟩, by simp [intOf]⟩
      exact Kd.R_set HR3.out HB3.out (by simp [Kd.string, Kd.scalar]) _ _
    · obtain ⟨ad1, rfl, hs⟩ := strs_at (Kd.C_below HC1.out hbel.out) 1 (by decide)
      have hs' : wr.cell? ⟨ad1.block, ad1.off + 1, none⟩ = some (.string (ofL [99])) := by
        have hz : ad1.add 1 = ⟨ad1.block, ad1.off + 1, none⟩ := by simp [Addr.add]
        rw [hz] at hs
        exact hs
      clear hs
      go_wp2_with fail
      refine (split_any [99] 7 wr (by decide)).mono ?_
      rintro e w3 ⟨v3, rfl, hR3, hl3⟩
      rw [sp2] at hR3
      obtain ⟨A6, c6, hv3⟩ := Kd.R_slice hR3
      subst hv3
      have hb3 : w3.heap[w1.heap.size]? = _ := (hl3.block _ (by omega)).trans hblk.out
      have hc3 : w3.cell? ⟨w1.heap.size, 1, none⟩ = some (.slice none 0 0) := cell_block hb3 1
      have hf3 := frozen_block hb3 1
      have HR3 := Lib.hid (Kd.R_lower hR3 hszr)
      have HR5 := Lib.hid (Kd.R_below hR5.out hl3)
      have HB3 := Lib.hid hb3
      have HL3 := Lib.hid (hbel.out.trans (hl3.mono hbel.out.size))
      have hsz3 := hl3.size
      clear hR3 hb3 hl3 hs'
      go_wp2
      refine ⟨⟨Lib.hid (HL3.out.setCell (p := ⟨w1.heap.size, 1, none⟩) (Nat.le_refl _) _), Nat.le_trans (Nat.le_trans hszr hsz3) ((Below.refl 0 w3).setCell (p := ⟨w1.heap.size, 1, none⟩) (Nat.zero_le _) _).size, .inr (.inr ⟨rfl, A5, c5, A6, c6, Lib.hid (Lib.heap_setCell_same HB3.out _), Lib.hid ?_, Lib.hid ?_⟩)⟩, by simp [intOf]⟩
      · exact Kd.R_set HR5.out HB3.out (by simp [Kd.string, Kd.scalar]) _ _
      · exact Kd.R_set HR3.out HB3.out (by simp [Kd.string, Kd.scalar]) _ _
    · go_wp2
      go_ret
      obtain ⟨B5, d5, he5, hl5, hC5⟩ := Kd.R_reads hR5.out
      obtain ⟨B6, d6, he6, hl6, hC6⟩ := Kd.R_reads hR6.out
      injection he5 with h1 h2 h3
      injection he6 with h4 h5 h6
      subst h1 h3 h4 h6
      refine ⟨_, _, rfl, ?_, HL1.out.trans (hbel.out.mono HL1.out.size)⟩
      refine C_of_block (d := Kd.slice 9 Kd.string) (cs := [.slice A5 2 c5, .slice A6 1 c6]) hblk.out ?_ (by decide)
      exact reps_cons (c := [.slice A5 2 c5]) (cs := [.slice A6 1 c6]) ⟨A5, c5, rfl, hl5, hC5⟩ rfl (reps_cons (c := [.slice A6 1 c6]) (cs := []) ⟨A6, c6, rfl, hl6, hC6⟩ rfl (Reps.none _ _))

set_option maxHeartbeats 1000000 in
set_option maxRecDepth 5000 in
theorem contentsOf_keeps (ad : Addr) (c : Nat) (w : World) (hC : (Kd.int .u8).C w (some ad) N0.length N0) :
    Calls Try.prog 43 #[.slice (some ad) 5 c] w fun e w' => ∃ A c', e = .returned (.slice A 2 c') ∧ (Kd.slice 9 Kd.string).C w' A [S1, S2].length [S1, S2] ∧ Below w.heap.size w w' := by
  have HC := Lib.hid hC
  clear hC
  go_enter Try.func43, Try.ntmps43
  go_wp2_with fail
  refine (clone_bytes ad c N0 w HC.out (by decide)).mono ?_
  rintro e w1 ⟨v, rfl, hR, hl⟩
  obtain ⟨A1, c1, rfl, _, hC1⟩ := Kd.R_reads hR
  obtain ⟨ad1, rfl, _⟩ := hC1.2.2 (by decide)
  have HC1 := Lib.hid hC1
  have HL1 := Lib.hid hl
  clear hR hC1 hl
  go_wp2_with fail
  refine (newContents_keeps ad1 c1 w1 HC1.out).mono ?_
  rintro e w2 ⟨A2, c2, rfl, hC2, hl2⟩
  have HC2 := Lib.hid hC2
  have HL2 := Lib.hid (HL1.out.trans (hl2.mono HL1.out.size))
  clear hC2 hl2
  go_wp2
  go_ret
  exact ⟨_, _, rfl, HC2.out, HL2.out⟩

def keepBlocks (n : Nat) : List Obj :=
  [.cells #[.string (ofL [97]), .string (ofL [98])] 9, .cells #[.string (ofL [99])] 9, .cells #[.slice (some ⟨n, 0, none⟩) 2 2, .slice (some ⟨n + 1, 0, none⟩) 1 1] 31]
theorem keep_rows (w : World) : (Kd.slice 9 Kd.string).C (allocs w (keepBlocks w.heap.size)) (some ⟨w.heap.size + 2, 0, none⟩) [S1, S2].length [S1, S2] := by
  have b0 : (allocs w (keepBlocks w.heap.size)).heap[w.heap.size]? = _ := allocs_new w (keepBlocks w.heap.size) 0 _ rfl
  have b1 := allocs_new w (keepBlocks w.heap.size) 1 _ rfl
  have b2 := allocs_new w (keepBlocks w.heap.size) 2 _ rfl
  have c0 : Kd.string.C (allocs w (keepBlocks w.heap.size)) (some ⟨w.heap.size, 0, none⟩) S1.length S1 := C_of_block (cs := [.string (ofL [97]), .string (ofL [98])]) b0 (reps_strs _ S1) (by decide)
  have c1 : Kd.string.C (allocs w (keepBlocks w.heap.size)) (some ⟨w.heap.size + 1, 0, none⟩) S2.length S2 := C_of_block (cs := [.string (ofL [99])]) b1 (reps_strs _ S2) (by decide)
  refine C_of_block (d := Kd.slice 9 Kd.string) (cs := [.slice (some ⟨w.heap.size, 0, none⟩) 2 2, .slice (some ⟨w.heap.size + 1, 0, none⟩) 1 1]) b2 ?_ (by decide)
  exact reps_cons (c := [_]) (cs := [_]) ⟨_, _, rfl, by decide, c0⟩ rfl (reps_cons (c := [_]) (cs := []) ⟨_, _, rfl, by decide, c1⟩ rfl (Reps.none _ _))

set_option maxHeartbeats 1000000 in
set_option maxRecDepth 5000 in
theorem keeps_any (w : World) : Calls Try.prog 24 #[] w fun e w' => e = .returned (.bool true) ∧ Below w.heap.size w w' := by
  have hcv := Lib.run_convert_bytes_const (P := Try.prog) w 45 U8 #[.int .u8 97, .int .u8 7, .int .u8 98, .int .u8 10, .int .u8 99] 5 5 Try.underlying45 Try.underlying5
  have hC : (Kd.int .u8).C (w.alloc (.cells #[.int .u8 97, .int .u8 7, .int .u8 98, .int .u8 10, .int .u8 99] U8 (5, 6))) (some ⟨w.heap.size, 0, none⟩) N0.length N0 := C_of_block (cs := [.int .u8 97, .int .u8 7, .int .u8 98, .int .u8 10, .int .u8 99]) (heap_alloc_new _ _) (reps_ints _ _ N0) (by decide)
  have HC := Lib.hid hC
  have HK := Lib.hid (fun W : World => keep_rows W)
  have HKB := Lib.hid (fun W : World => allocs_below W (keepBlocks W.heap.size))
  clear hC
  go_enter Try.func24, Try.ntmps24
  go_wp2_with fail
  refine (contentsOf_keeps ⟨w.heap.size, 0, none⟩ 5 _ HC.out).mono ?_
  rintro e w1 ⟨A1, c1, rfl, hC1, hl1⟩
  have HC1 := Lib.hid hC1
  have HL1 := Lib.hid ((below_alloc (Below.refl w.heap.size w) (.cells #[.int .u8 97, .int .u8 7, .int .u8 98, .int .u8 10, .int .u8 99] U8 (5, 6))).trans (hl1.mono (by simp)))
  clear hC1 hl1
  go_wp2_with fail
  refine (sameLists_eq A1 (some ⟨w1.heap.size + 2, 0, none⟩) c1 2 [S1, S2] (allocs w1 (keepBlocks w1.heap.size)) (Kd.C_below HC1.out (HKB.out w1)) (HK.out w1)).mono ?_
  rintro e w2 ⟨rfl, hl2⟩
  have HL2 := Lib.hid ((HL1.out.trans ((HKB.out w1).mono HL1.out.size)).trans (hl2.mono (Nat.le_trans HL1.out.size (HKB.out w1).size)))
  clear hl2
  go_wp2
  go_ret
  exact ⟨rfl, HL2.out⟩
end Go.Proofs.Ytaniafohcaiedaa.Tx
