/-
  The walks of zzLines and zzHasPrefix.
-/
import Derived.Test.YtjifoimkjgepcaaDoorQx
import Derived.Deep.QuietTactic
import Derived.BigQuiet
set_option linter.unusedVariables false
set_option linter.unusedSimpArgs false
namespace Go.Proofs.YtjifoimkjgepcaaDoor.Tx
open Go.RowKit Go.Proofs.YtjifoimkjgepcaaDoor.K Go.Proofs.YtjifoimkjgepcaaDoorW.PrintWords

/-- A text's lines, as they stand. -/
def rawL (l : List UInt8) : List (List UInt8) :=
  if h : l = [] then [] else if 10 ∈ l then l.take (l.idxOf 10) :: rawL (l.drop (l.idxOf 10 + 1)) else [l]
termination_by l.length
decreasing_by
  have : 0 < l.length := List.length_pos_iff.2 h
  simp
  omega
theorem rawL_nil : rawL [] = [] := by rw [rawL]; simp
theorem rawL_no {l : List UInt8} (h : l ≠ []) (h2 : 10 ∉ l) : rawL l = [l] := by rw [rawL, dif_neg h, if_neg h2]
theorem rawL_ix {l : List UInt8} (h : l ≠ []) (h2 : 10 ∈ l) : rawL l = l.take (l.idxOf 10) :: rawL (l.drop (l.idxOf 10 + 1)) := by rw [rawL, dif_neg h, if_pos h2]
theorem rawL_app {a : List UInt8} (h : 10 ∉ a) (b : List UInt8) : rawL (a ++ 10 :: b) = a :: rawL b := by
  have hm : 10 ∈ a ++ 10 :: b := by simp
  have hi : (a ++ 10 :: b).idxOf 10 = a.length := by rw [List.idxOf_append, if_neg h, List.idxOf_cons_self]; simp
  rw [rawL_ix (by simp) hm, hi]
  simp
/-- A line without a return at its end. -/
def strip (l : List UInt8) : List UInt8 := if l.getLast? = some 13 then l.dropLast else l

theorem strip_nil : strip [] = [] := rfl
theorem last_at {x : List UInt8} {m : Nat} (h : x.length = m + 1) : x.getLast? = some (x[m]'(by omega)) := by
  rw [List.getLast?_eq_getElem?, show x.length - 1 = m by omega, List.getElem?_eq_getElem]
theorem ofL_get (x : List UInt8) (m : Nat) (h : m < x.length) : ((ofL x)[m]'(by rw [ofL_size]; exact h)) = x[m] := by
  simp [ofL, ByteArray.getElem_eq_getElem_data]
theorem strip_yes {x : List UInt8} {m : Nat} (h : x.length = m + 1) (h2 : x[m]'(by omega) = 13) : strip x = x.take m := by
  rw [strip, last_at h, h2, if_pos rfl, List.dropLast_eq_take, h, Nat.add_sub_cancel]
theorem strip_not {x : List UInt8} {m : Nat} (h : x.length = m + 1) (h2 : x[m]'(by omega) ≠ 13) : strip x = x := by
  rw [strip, last_at h, if_neg (by simpa using h2)]
set_option maxHeartbeats 2000000 in
set_option maxRecDepth 5000 in
theorem lines_any (l : List UInt8) (w : World) (hl : l.length ≤ 8796093022000) :
    Calls Tryd.prog 61 #[.string (ofL l)] w fun e w' => ∃ v, e = .returned v ∧ Kd.string.R 9 w' w.heap.size (fun _ => True) v (((rawL l).map strip).map ofL) ∧ Below w.heap.size w w' := by
  have HI := Lib.hid (fun (r : List UInt8) (W : World) (hr : r.length ≤ 8796093022000) => index_any r 10 W (by omega))
  have hnl : one 10 = ⟨#[10]⟩ := rfl
  rw [hnl] at HI
  go_enter Tryd.func61, Tryd.ntmps61
  go_wp2
  go_loopw [0, 3] (fun x v wr => ∃ (r : List UInt8) (acc : List (List UInt8)), x = .string (ofL r) ∧ r.length + acc.length ≤ l.length ∧ Hid (rawL l = acc ++ rawL r) ∧ Hid (Kd.string.R 9 wr w.heap.size (fun _ => True) v ((acc.map strip).map ofL)) ∧ Hid (Below w.heap.size w wr)) (fun x _ _ => strLen x)
  case atStart => exact ⟨l, [], rfl, by simp, Lib.hid rfl, Lib.hid (Kd.R_nil _ _ _ _ _), Lib.hid (Below.refl _ _)⟩
  case round =>
    obtain ⟨r, acc, rfl, hlen, hsp, hR, hbel⟩ := hrel
    have hrz : (ofL r).size = r.length := ofL_size r
    have hszr := hbel.out.size
    by_cases hr0 : r.length = 0
    · go_wp2
      go_ret
      obtain rfl : r = [] := List.eq_nil_of_length_eq_zero hr0
      refine ⟨_, rfl, ?_, hbel.out⟩
      have := hR.out
      rw [hsp.out, rawL_nil, List.append_nil]
      exact this
    have hne : r ≠ [] := fun e => hr0 (by rw [e]; rfl)
    by_cases hc : 10 ∈ r
    · obtain ⟨i, hi⟩ : ∃ i, r.idxOf 10 = i := ⟨_, rfl⟩
      have hix : ixInt 10 r = (i : Int) := by rw [ixInt, if_pos hc, hi]
      have hilt : i < r.length := by rw [← hi]; exact (idx_split hc).2.2
      have HS := Lib.hid (rawL_ix hne hc)
      rw [hi] at HS
      clear hc hi hne
      go_wp2_with fail
      refine (HI.out r wr (by omega)).mono ?_
      rintro e w1 ⟨rfl, rfl⟩
      rw [hix]
      go_wp2_with fail
      go_quiet (fail)
      have hex := ofL_extract r 0 i
      rw [List.drop_zero, Nat.sub_zero] at hex
      have hex2 := ofL_extract r (i + 1) r.length
      rw [show List.take (r.length - (i + 1)) (List.drop (i + 1) r) = r.drop (i + 1) from List.take_of_length_le (by simp)] at hex2
      rw [hex, hex2]
      have HRq := Lib.hid (show Kd.string.R 9 (w1.drewN nq) w.heap.size (fun _ => True) _ _ from Kd.R_below hR.out (pw_below_drewN (Below.refl _ _) nq))
      have HBq := Lib.hid (pw_below_drewN hbel.out nq)
      have hszq : w.heap.size ≤ (w1.drewN nq).heap.size := hszr
      generalize w1.drewN nq = wq at HRq HBq hszq ⊢
      clear hR hbel hex hex2
      have hxl : (r.take i).length ≤ r.length := by simp; omega
      generalize hxd : r.take i = x at hxl HS ⊢
      clear hxd
      by_cases hx0 : x.length = 0
      · have hz : (ofL x).size = 0 := by rw [ofL_size]; exact hx0
        have HST := Lib.hid (show strip x = x by rw [List.eq_nil_of_length_eq_zero hx0]; rfl)
        go_wp2_with (at_builtin; refine kapp (w0 := w) Kd.string w.heap.size rfl _ _ 34 9 (.string ⟨#[]⟩) 16 rfl Tryd.underlying34 (by kernel_rfl) rfl (by decide) (by decide) _ ((acc.map strip).map ofL) (ofL x) [.string (ofL x)] (fun _ => True) (fun _ => False) _ rfl rfl ?hg rfl (fun _ h => h.elim) (fun _ _ => trivial) (Kd.R_alloc HRq.out _) (HBq.out.alloc hszq _) (by simp; omega) ?hl ?_)
        case hg =>
          intro j u hj
          rw [cell_of_heap (heap_new wq _)]
          simpa using hj
        case hl => simp; omega
        intro v1 w4 hR4 hB4 hg4 hat4
        have HR4 := Lib.hid hR4
        have HB4 := Lib.hid hB4
        clear hg4 hat4 hR4 hB4
        go_wp2
        refine ⟨⟨r.drop (i + 1), acc ++ [x], rfl, by simp; omega, Lib.hid ?_, Lib.hid ?_, HB4⟩, by simp only [strLen, ofL_size, List.length_drop, List.length_nil]; omega⟩
        · rw [hsp.out, HS.out]; simp
        · have := HR4.out
          rw [List.map_append, List.map_append]
          simpa [HST.out] using this
      · obtain ⟨m, hm⟩ : ∃ m, x.length = m + 1 := ⟨x.length - 1, by omega⟩
        have hz : (ofL x).size = m + 1 := by rw [ofL_size]; exact hm
        have hge := ofL_get x m (by omega)
        have hlm : m + 1 ≤ r.length := by omega
        by_cases h13 : x[m]'(by omega) = 13
        · have HST := Lib.hid (strip_yes hm h13)
          have hq : ((((ofL x)[m]'(by omega)).toNat : Int) == 13) = true := by rw [hge, h13]; rfl
          have hex3 := ofL_extract x 0 m
          rw [List.drop_zero, Nat.sub_zero] at hex3
          clear h13 hge
          go_wp2_with (at_builtin; refine kapp (w0 := w) Kd.string w.heap.size rfl _ _ 34 9 (.string ⟨#[]⟩) 16 rfl Tryd.underlying34 (by kernel_rfl) rfl (by decide) (by decide) _ ((acc.map strip).map ofL) (ofL (x.take m)) [.string (ofL (x.take m))] (fun _ => True) (fun _ => False) _ rfl rfl ?hg rfl (fun _ h => h.elim) (fun _ _ => trivial) (Kd.R_alloc HRq.out _) (HBq.out.alloc hszq _) (by simp; omega) ?hl ?_)
          case hg =>
            intro j u hj
            rw [cell_of_heap (heap_new wq _)]
            simpa using hj
          case hl => simp; omega
          intro v1 w4 hR4 hB4 hg4 hat4
          have HR4 := Lib.hid hR4
          have HB4 := Lib.hid hB4
          clear hg4 hat4 hR4 hB4
          go_wp2
          refine ⟨⟨r.drop (i + 1), acc ++ [x], rfl, by simp; omega, Lib.hid ?_, Lib.hid ?_, HB4⟩, by simp only [strLen, ofL_size, List.length_drop, List.length_nil]; omega⟩
          · rw [hsp.out, HS.out]; simp
          · have := HR4.out
            rw [List.map_append, List.map_append]
            simpa [HST.out] using this
        · have HST := Lib.hid (strip_not hm h13)
          have hq : ((((ofL x)[m]'(by omega)).toNat : Int) == 13) = false := by
            rw [hge]
            have : (x[m]'(by omega)).toNat ≠ 13 := fun e => h13 (UInt8.toNat_inj.1 e)
            rw [beq_eq_false_iff_ne]
            intro e
            exact this (by omega)
          clear h13 hge
          go_wp2_with (at_builtin; refine kapp (w0 := w) Kd.string w.heap.size rfl _ _ 34 9 (.string ⟨#[]⟩) 16 rfl Tryd.underlying34 (by kernel_rfl) rfl (by decide) (by decide) _ ((acc.map strip).map ofL) (ofL x) [.string (ofL x)] (fun _ => True) (fun _ => False) _ rfl rfl ?hg rfl (fun _ h => h.elim) (fun _ _ => trivial) (Kd.R_alloc HRq.out _) (HBq.out.alloc hszq _) (by simp; omega) ?hl ?_)
          case hg =>
            intro j u hj
            rw [cell_of_heap (heap_new wq _)]
            simpa using hj
          case hl => simp; omega
          intro v1 w4 hR4 hB4 hg4 hat4
          have HR4 := Lib.hid hR4
          have HB4 := Lib.hid hB4
          clear hg4 hat4 hR4 hB4
          go_wp2
          refine ⟨⟨r.drop (i + 1), acc ++ [x], rfl, by simp; omega, Lib.hid ?_, Lib.hid ?_, HB4⟩, by simp only [strLen, ofL_size, List.length_drop, List.length_nil]; omega⟩
          · rw [hsp.out, HS.out]; simp
          · have := HR4.out
            rw [List.map_append, List.map_append]
            simpa [HST.out] using this
    · have HS := Lib.hid (rawL_no hne hc)
      have hix : ixInt 10 r = -1 := by rw [ixInt, if_neg hc]
      clear hc hne
      go_wp2_with fail
      refine (HI.out r wr (by omega)).mono ?_
      rintro e w1 ⟨rfl, rfl⟩
      rw [hix]
      have HRq := hR
      have HBq := hbel
      have hszq := hszr
      generalize w1 = wq at HRq HBq hszq ⊢
      clear hR hbel hszr
      have hxl : r.length ≤ r.length := Nat.le_refl _
      by_cases hx0 : r.length = 0
      · exact absurd hx0 hr0
      · obtain ⟨m, hm⟩ : ∃ m, r.length = m + 1 := ⟨r.length - 1, by omega⟩
        have hz : (ofL r).size = m + 1 := by rw [ofL_size]; exact hm
        have hge := ofL_get r m (by omega)
        have hlm : m + 1 ≤ r.length := by omega
        by_cases h13 : r[m]'(by omega) = 13
        · have HST := Lib.hid (strip_yes hm h13)
          have hq : ((((ofL r)[m]'(by omega)).toNat : Int) == 13) = true := by rw [hge, h13]; rfl
          have hex3 := ofL_extract r 0 m
          rw [List.drop_zero, Nat.sub_zero] at hex3
          clear h13 hge
          go_wp2_with (at_builtin; refine kapp (w0 := w) Kd.string w.heap.size rfl _ _ 34 9 (.string ⟨#[]⟩) 16 rfl Tryd.underlying34 (by kernel_rfl) rfl (by decide) (by decide) _ ((acc.map strip).map ofL) (ofL (r.take m)) [.string (ofL (r.take m))] (fun _ => True) (fun _ => False) _ rfl rfl ?hg rfl (fun _ h => h.elim) (fun _ _ => trivial) (Kd.R_alloc HRq.out _) (HBq.out.alloc hszq _) (by simp; omega) ?hl ?_)
          case hg =>
            intro j u hj
            rw [cell_of_heap (heap_new wq _)]
            simpa using hj
          case hl => simp; omega
          intro v1 w4 hR4 hB4 hg4 hat4
          have HR4 := Lib.hid hR4
          have HB4 := Lib.hid hB4
          clear hg4 hat4 hR4 hB4
          go_wp2
          refine ⟨⟨[], acc ++ [r], rfl, by simp; omega, Lib.hid ?_, Lib.hid ?_, HB4⟩, by rw [show strLen (Value.string ⟨#[]⟩) = 0 from rfl]; simp only [strLen, ofL_size]; omega⟩
          · rw [hsp.out, HS.out]; simp [rawL_nil]
          · have := HR4.out
            rw [List.map_append, List.map_append]
            simpa [HST.out] using this
        · have HST := Lib.hid (strip_not hm h13)
          have hq : ((((ofL r)[m]'(by omega)).toNat : Int) == 13) = false := by
            rw [hge]
            have : (r[m]'(by omega)).toNat ≠ 13 := fun e => h13 (UInt8.toNat_inj.1 e)
            rw [beq_eq_false_iff_ne]
            intro e
            exact this (by omega)
          clear h13 hge
          go_wp2_with (at_builtin; refine kapp (w0 := w) Kd.string w.heap.size rfl _ _ 34 9 (.string ⟨#[]⟩) 16 rfl Tryd.underlying34 (by kernel_rfl) rfl (by decide) (by decide) _ ((acc.map strip).map ofL) (ofL r) [.string (ofL r)] (fun _ => True) (fun _ => False) _ rfl rfl ?hg rfl (fun _ h => h.elim) (fun _ _ => trivial) (Kd.R_alloc HRq.out _) (HBq.out.alloc hszq _) (by simp; omega) ?hl ?_)
          case hg =>
            intro j u hj
            rw [cell_of_heap (heap_new wq _)]
            simpa using hj
          case hl => simp; omega
          intro v1 w4 hR4 hB4 hg4 hat4
          have HR4 := Lib.hid hR4
          have HB4 := Lib.hid hB4
          clear hg4 hat4 hR4 hB4
          go_wp2
          refine ⟨⟨[], acc ++ [r], rfl, by simp; omega, Lib.hid ?_, Lib.hid ?_, HB4⟩, by rw [show strLen (Value.string ⟨#[]⟩) = 0 from rfl]; simp only [strLen, ofL_size]; omega⟩
          · rw [hsp.out, HS.out]; simp [rawL_nil]
          · have := HR4.out
            rw [List.map_append, List.map_append]
            simpa [HST.out] using this
end Go.Proofs.YtjifoimkjgepcaaDoor.Tx
