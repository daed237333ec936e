/-
  The walks of NewFeaturesFilter and impl.Match.
-/
import Derived.Test.YtjifoimkjgepcaaFltC
import Derived.Test.YtjifoimkjgepcaaCl
set_option linter.unusedVariables false
set_option linter.unusedSimpArgs false
namespace Go.Proofs.Ytjifoimkjgepcaa.Flt
open Go.RowKit Go.Proofs.Ytjifoimkjgepcaa.K Go.Proofs.YtjifoimkjgepcaaW.PrintWords

/-- What NewFeaturesFilter leaves: the tree of all filters. -/
def Made (fs : List (List ByteArray)) (w : World) (e : Ending) (w' : World) : Prop :=
  ∃ D : DT, e = .returned (.pointer (some ⟨D.b, 0, none⟩)) ∧ TreeInv w' w.heap.size D.nodes ∧ D.strip = addAll fs (.mk []) ∧ Below w.heap.size w w'

def NewRel (rb B : Nat) (fs : List (List ByteArray)) (w : World) (i : Value) (wr : World) : Prop :=
  ∃ (k : Nat) (D : DT), k ≤ fs.length ∧ i = .int .i64 k ∧ TreeInv wr B D.nodes ∧ D.b = rb ∧ D.strip = addAll (fs.take k) (.mk []) ∧ (∀ x ∈ D.nodes, x.es.length ≤ k) ∧ Below B w wr

set_option maxHeartbeats 400000 in
theorem new_any (A : Option Addr) (c : Nat) (fs : List (List ByteArray)) (w : World) (hC : (Kd.slice 9 Kd.string).C w A fs.length fs) (hb : fs.length * 8 ≤ 140737488355328) (hm : ∀ x ∈ fs, x.length ≤ maxLen) :
    Calls Try.prog 41 #[.slice A fs.length c] w (Made fs w) := by
  have HC := Lib.hid hC
  have HM := Lib.hid hm
  clear hC hm
  go_enter Try.func41, Try.ntmps41
  go_wp2
  go_loopw [8] (fun i wr => NewRel w.heap.size w.heap.size fs w i wr) (fun i _ => fs.length - (intOf i).toNat)
  case atStart =>
    refine ⟨0, .mk w.heap.size (.slice none 0 0) [], Nat.zero_le _, rfl, ⟨?_, ?_⟩, rfl, rfl, ?_, (Below.refl _ _).alloc (Nat.le_refl _) _⟩
    · intro x hx
      simp only [DT.nodes, DT.nodesL, List.mem_singleton] at hx
      subst hx
      exact ⟨Nat.le_refl _, ⟨_, .inr rfl, heap_new w _⟩, .inl ⟨rfl, rfl⟩⟩
    · simp [DT.nodes, DT.nodesL]
    · intro x hx
      simp only [DT.nodes, DT.nodesL, List.mem_singleton] at hx
      subst hx
      simp [ends]
  case round =>
    obtain ⟨k, D, hk, rfl, hT, hr, hst, hbd, hbel⟩ := hrel
    by_cases hlt : k < fs.length
    · obtain ⟨ad, A', c', rfl, hcell, hl', hC'⟩ := rows_at HC.out k hlt
      have hcell' := (hbel.cell (World.block_lt_of_cell? w _ hcell)).trans hcell
      have HC' := Lib.hid hC'
      have HT := Lib.hid hT
      have HR := Lib.hid hr
      have HST := Lib.hid hst
      have HBD := Lib.hid hbd
      have HL := Lib.hid hbel
      have hsz := hbel.size
      clear hcell hl' hC' hT hr hst hbd hbel
      go_wp2_with fail
      refine (add_any A' c' fs[k] wr w.heap.size k w.heap.size D (HM.out _ (List.getElem_mem hlt)) ?_ HT.out HR.out hsz HBD.out (by omega)).mono ?_
      · intro j hj
        obtain ⟨a2, h1, h2⟩ := strs_at HC'.out j hj
        have h3 := World.block_lt_of_cell? w _ h2
        rw [add_block] at h3
        exact ⟨a2, h1, (HL.out.cell (p := a2.add j) (by rw [add_block]; exact h3)).trans h2, h3⟩
      rintro e w1 ⟨rfl, D', hT', hr', hst', hbd', hbel'⟩
      have HT' := Lib.hid hT'
      have HR' := Lib.hid hr'
      have HST' := Lib.hid hst'
      have HBD' := Lib.hid hbd'
      have HL' := Lib.hid (HL.out.trans hbel')
      clear hT' hr' hst' hbd' hbel' hcell'
      go_wp2
      refine ⟨⟨k + 1, D', by omega, by go_num, HT'.out, HR'.out, ?_, HBD'.out, HL'.out⟩, by simp [intOf]; omega⟩
      rw [HST'.out, HST.out, List.take_succ_eq_append_getElem hlt, addAll_snoc]
    · go_wp2
      go_ret
      obtain rfl : k = fs.length := by omega
      rw [List.take_length] at hst
      exact ⟨D, by rw [hr]; rfl, hT, hst, hbel⟩

set_option maxHeartbeats 400000 in
/-- Match tells of each features what the tree takes. -/
theorem Match_any (A B : Option Addr) (c c' : Nat) (fs xs : List (List ByteArray)) (w : World) (hC : (Kd.slice 9 Kd.string).C w A fs.length fs) (hX : (Kd.slice 9 Kd.string).C w B xs.length xs)
    (hb : ∀ x ∈ fs, x.length * 16 ≤ 140737488355328) (hb' : fs.length * 24 ≤ 140737488355328) (hx' : ∀ x ∈ xs, x.length ≤ maxLen) (hxl : xs.length ≤ 140737488355328) :
    Calls Try.prog 37 #[.slice A fs.length c, .slice B xs.length c'] w (RetRow Kd.bool 4 (xs.map (takesAll fs)) w) := by
  have HC := Lib.hid hC
  have HX := Lib.hid hX
  have HB := Lib.hid hb
  have HX' := Lib.hid hx'
  clear hC hX hb hx'
  go_enter Try.func37, Try.ntmps37
  go_wp2_with fail
  refine (copied_any A c fs w HC.out HB.out hb').mono ?_
  rintro e w1 ⟨v, rfl, hv, hw1⟩
  obtain ⟨A3, c3, rfl, hl3, hC3⟩ := Kd.R_reads hv
  have HC3 := Lib.hid hC3
  have HL1 := Lib.hid hw1
  have hsz1 := hw1.size
  clear hv hl3 hC3 hw1
  go_wp2_with fail
  refine (new_any A3 c3 fs w1 HC3.out (by omega) (fun x hx => by have := HB.out x hx; simp only [maxLen]; omega)).mono ?_
  rintro e w2 ⟨D, rfl, hT, hst, hw2⟩
  have HT := Lib.hid hT
  have HST := Lib.hid hst
  have HL2 := Lib.hid (HL1.out.trans (hw2.mono hsz1))
  have hsz2 := hw2.size
  clear hT hst hw2
  go_wp2
  go_loopw [6, 14] (fun v i wr => ∃ k : Nat, k ≤ xs.length ∧ i = .int .i64 k ∧ Kd.bool.R 4 wr w2.heap.size (fun _ => True) v ((xs.take k).map (takesAll fs)) ∧ Below w2.heap.size w2 wr) (fun _ i _ => xs.length - (intOf i).toNat)
  case atStart => exact ⟨0, Nat.zero_le _, rfl, Kd.R_nil _ _ _ _ _, Below.refl _ _⟩
  case round =>
    obtain ⟨k, hk, rfl, hR, hbel⟩ := hrel
    by_cases hlt : k < xs.length
    · obtain ⟨ad, A', c4, rfl, hcell, hl', hC'⟩ := rows_at HX.out k hlt
      have HLr := Lib.hid (HL2.out.trans (hbel.mono (by omega)))
      have hcell' := (HLr.out.cell (World.block_lt_of_cell? w _ hcell)).trans hcell
      have HC' := Lib.hid (Kd.C_below hC' HLr.out)
      obtain ⟨A5, c5, hv5⟩ := Kd.R_slice hR
      rw [show ((xs.take k).map (takesAll fs)).length = k by simp; omega] at hv5
      subst hv5
      have HR := Lib.hid hR
      have HBL := Lib.hid hbel
      have hsz := hbel.size
      clear hcell hl' hC' hR hbel
      go_wp2_with fail
      refine (match_any A' c4 xs[k] wr w1.heap.size D (HX'.out _ (List.getElem_mem hlt)) (strs_at HC'.out) (HT.out.below HBL.out)).mono ?_
      rintro e w3 ⟨rfl, hw3⟩
      have HR3 := Lib.hid (Kd.R_below HR.out hw3)
      have HL3 := Lib.hid (HBL.out.trans (hw3.mono hsz))
      have hsz3 := hw3.size
      clear hw3 hcell'
      go_wp2_with (at_builtin; refine kapp (w0 := w2) Kd.bool w2.heap.size rfl _ _ 69 4 (.bool false) 1 rfl Try.underlying69 (by kernel_rfl) rfl (by decide) (by decide) _ ((xs.take k).map (takesAll fs)) (accT xs[k] D.strip) [.bool (accT xs[k] D.strip)] (fun _ => True) (fun _ => False) w3.heap.size rfl rfl ?hg rfl (fun _ h => h.elim) (fun _ _ => trivial) (Kd.R_alloc HR3.out _) (HL3.out.alloc (by omega) _) (by simp; omega) ?hl ?_)
      case hg =>
        intro j u hj
        rw [cell_of_heap (heap_new w3 _)]
        simpa using hj
      case hl => simp; omega
      intro v1 w4 hR4 hB4 hg4 hat4
      clear hg4 hat4
      have HR4 := Lib.hid hR4
      have HB4 := Lib.hid hB4
      clear hR4 hB4
      go_wp2
      refine ⟨⟨k + 1, by omega, by go_num, ?_, HB4.out⟩, by simp [intOf]; omega⟩
      rw [List.take_succ_eq_append_getElem hlt, List.map_append, List.map_singleton, takesAll, ← HST.out]
      simpa using HR4.out
    · go_wp2
      go_ret
      obtain rfl : k = xs.length := by omega
      rw [List.take_length] at hR
      exact ⟨_, rfl, Kd.R_lower hR (by omega), HL2.out.trans (hbel.mono (by omega))⟩
end Go.Proofs.Ytjifoimkjgepcaa.Flt
