/-
  The walks of zzLines and zzHasPrefix.
-/
import Derived.Test.YteoljiclmhmbnaaDoorUkB
import Derived.Deep.QuietTactic
import Derived.BigQuiet
import Derived.Lib.ItoaNum
import Derived.Lib.AtoiTie
import Derived.Lib.ParseIntBTie
import Derived.Lib.AtoiErrMem
set_option linter.unusedVariables false
set_option linter.unusedSimpArgs false
namespace Go.Proofs.YteoljiclmhmbnaaDoor.Tx
open Go.RowKit Go.Proofs.YteoljiclmhmbnaaDoor.K Go.Proofs.YteoljiclmhmbnaaDoorW.PrintWords

/-- A text's lines, as they stand. -/
def rawL (l : List UInt8) : List (List UInt8) :=
  if h : l = [] then [] else if 10 ∈ l then l.take (l.idxOf 10) :: rawL (l.drop (l.idxOf 10 + 1)) else [l]
termination_by l.length
decreasing_by
  have : 0 < l.length := List.length_pos_iff.2 h
  simp
  omega
theorem rawL_nil : rawL [] = [] := by rw [rawL]; simp
theorem rawL_no {l : List UInt8} (h : l ≠ []) (h2 : 10 ∉ l) : rawL l = [l] := by rw [rawL, dif_neg h, if_neg h2]
theorem rawL_ix {l : List UInt8} (h : l ≠ []) (h2 : 10 ∈ l) : rawL l = l.take (l.idxOf 10) :: rawL (l.drop (l.idxOf 10 + 1)) := by rw [rawL, dif_neg h, if_pos h2]
theorem rawL_app {a : List UInt8} (h : 10 ∉ a) (b : List UInt8) : rawL (a ++ 10 :: b) = a :: rawL b := by
  have hm : 10 ∈ a ++ 10 :: b := by simp
  have hi : (a ++ 10 :: b).idxOf 10 = a.length := by rw [List.idxOf_append, if_neg h, List.idxOf_cons_self]; simp
  rw [rawL_ix (by simp) hm, hi]
  simp
/-- A line without a return at its end. -/
def strip (l : List UInt8) : List UInt8 := if l.getLast? = some 13 then l.dropLast else l

theorem strip_nil : strip [] = [] := rfl
theorem last_at {x : List UInt8} {m : Nat} (h : x.length = m + 1) : x.getLast? = some (x[m]'(by omega)) := by
  rw [List.getLast?_eq_getElem?, show x.length - 1 = m by omega, List.getElem?_eq_getElem]
theorem ofL_get (x : List UInt8) (m : Nat) (h : m < x.length) : ((ofL x)[m]'(by rw [ofL_size]; exact h)) = x[m] := by
  simp [ofL, ByteArray.getElem_eq_getElem_data]
theorem strip_yes {x : List UInt8} {m : Nat} (h : x.length = m + 1) (h2 : x[m]'(by omega) = 13) : strip x = x.take m := by
  rw [strip, last_at h, h2, if_pos rfl, List.dropLast_eq_take, h, Nat.add_sub_cancel]
theorem strip_not {x : List UInt8} {m : Nat} (h : x.length = m + 1) (h2 : x[m]'(by omega) ≠ 13) : strip x = x := by
  rw [strip, last_at h, if_neg (by simpa using h2)]
set_option maxHeartbeats 2000000 in
set_option maxRecDepth 5000 in
theorem lines_any (l : List UInt8) (w : World) (hl : l.length ≤ 8796093022000) :
    Calls Tryd.prog 88 #[.string (ofL l)] w fun e w' => ∃ v, e = .returned v ∧ Kd.string.R 9 w' w.heap.size (fun _ => True) v (((rawL l).map strip).map ofL) ∧ Below w.heap.size w w' := by
  have HI := Lib.hid (fun (r : List UInt8) (W : World) (hr : r.length ≤ 8796093022000) => index_any r 10 W (by omega))
  have hnl : one 10 = ⟨#[10]⟩ := rfl
  rw [hnl] at HI
  go_enter Tryd.func88, Tryd.ntmps88
  go_wp2
  go_loopw [0, 3] (fun x v wr => ∃ (r : List UInt8) (acc : List (List UInt8)), x = .string (ofL r) ∧ r.length + acc.length ≤ l.length ∧ Hid (rawL l = acc ++ rawL r) ∧ Hid (Kd.string.R 9 wr w.heap.size (fun _ => True) v ((acc.map strip).map ofL)) ∧ Hid (Below w.heap.size w wr)) (fun x _ _ => strLen x)
  case atStart => exact ⟨l, [], rfl, by simp, Lib.hid rfl, Lib.hid (Kd.R_nil _ _ _ _ _), Lib.hid (Below.refl _ _)⟩
  case round =>
    obtain ⟨r, acc, rfl, hlen, hsp, hR, hbel⟩ := hrel
    have hrz : (ofL r).size = r.length := ofL_size r
    have hszr := hbel.out.size
    by_cases hr0 : r.length = 0
    · go_wp2
      go_ret
      obtain rfl : r = [] := List.eq_nil_of_length_eq_zero hr0
      refine ⟨_, rfl, ?_, hbel.out⟩
      have := hR.out
      rw [hsp.out, rawL_nil, List.append_nil]
      exact this
    have hne : r ≠ [] := fun e => hr0 (by rw [e]; rfl)
    by_cases hc : 10 ∈ r
    · obtain ⟨i, hi⟩ : ∃ i, r.idxOf 10 = i := ⟨_, rfl⟩
      have hix : ixInt 10 r = (i : Int) := by rw [ixInt, if_pos hc, hi]
      have hilt : i < r.length := by rw [← hi]; exact (idx_split hc).2.2
      have HS := Lib.hid (rawL_ix hne hc)
      rw [hi] at HS
      clear hc hi hne
      go_wp2_with fail
      refine (HI.out r wr (by omega)).mono ?_
      rintro e w1 ⟨rfl, rfl⟩
      rw [hix]
      go_wp2_with fail
      go_quiet (fail)
      have hex := ofL_extract r 0 i
      rw [List.drop_zero, Nat.sub_zero] at hex
      have hex2 := ofL_extract r (i + 1) r.length
      rw [show List.take (r.length - (i + 1)) (List.drop (i + 1) r) = r.drop (i + 1) from List.take_of_length_le (by simp)] at hex2
      rw [hex, hex2]
      have HRq := Lib.hid (show Kd.string.R 9 (w1.drewN nq) w.heap.size (fun _ => True) _ _ from Kd.R_below hR.out (pw_below_drewN (Below.refl _ _) nq))
      have HBq := Lib.hid (pw_below_drewN hbel.out nq)
      have hszq : w.heap.size ≤ (w1.drewN nq).heap.size := hszr
      generalize w1.drewN nq = wq at HRq HBq hszq ⊢
      clear hR hbel hex hex2
      have hxl : (r.take i).length ≤ r.length := by simp; omega
      generalize hxd : r.take i = x at hxl HS ⊢
      clear hxd
      by_cases hx0 : x.length = 0
      · have hz : (ofL x).size = 0 := by rw [ofL_size]; exact hx0
        have HST := Lib.hid (show strip x = x by rw [List.eq_nil_of_length_eq_zero hx0]; rfl)
        go_wp2_with (at_builtin; refine kapp (w0 := w) Kd.string w.heap.size rfl _ _ 29 9 (.string ⟨#[]⟩) 16 rfl Tryd.underlying29 (by kernel_rfl) rfl (by decide) (by decide) _ ((acc.map strip).map ofL) (ofL x) [.string (ofL x)] (fun _ => True) (fun _ => False) _ rfl rfl ?hg rfl (fun _ h => h.elim) (fun _ _ => trivial) (Kd.R_alloc HRq.out _) (HBq.out.alloc hszq _) (by simp; omega) ?hl ?_)
        case hg =>
          intro j u hj
          rw [cell_of_heap (heap_new wq _)]
          simpa using hj
        case hl => simp; omega
        intro v1 w4 hR4 hB4 hg4 hat4
        have HR4 := Lib.hid hR4
        have HB4 := Lib.hid hB4
        clear hg4 hat4 hR4 hB4
        go_wp2
        refine ⟨⟨r.drop (i + 1), acc ++ [x], rfl, by simp; omega, Lib.hid ?_, Lib.hid ?_, HB4⟩, by simp only [strLen, ofL_size, List.length_drop, List.length_nil]; omega⟩
        · rw [hsp.out, HS.out]; simp
        · have := HR4.out
          rw [List.map_append, List.map_append]
          simpa [HST.out] using this
      · obtain ⟨m, hm⟩ : ∃ m, x.length = m + 1 := ⟨x.length - 1, by omega⟩
        have hz : (ofL x).size = m + 1 := by rw [ofL_size]; exact hm
        have hge := ofL_get x m (by omega)
        have hlm : m + 1 ≤ r.length := by omega
        by_cases h13 : x[m]'(by omega) = 13
        · have HST := Lib.hid (strip_yes hm h13)
          have hq : ((((ofL x)[m]'(by omega)).toNat : Int) == 13) = true := by rw [hge, h13]; rfl
          have hex3 := ofL_extract x 0 m
          rw [List.drop_zero, Nat.sub_zero] at hex3
          clear h13 hge
          go_wp2_with (at_builtin; refine kapp (w0 := w) Kd.string w.heap.size rfl _ _ 29 9 (.string ⟨#[]⟩) 16 rfl Tryd.underlying29 (by kernel_rfl) rfl (by decide) (by decide) _ ((acc.map strip).map ofL) (ofL (x.take m)) [.string (ofL (x.take m))] (fun _ => True) (fun _ => False) _ rfl rfl ?hg rfl (fun _ h => h.elim) (fun _ _ => trivial) (Kd.R_alloc HRq.out _) (HBq.out.alloc hszq _) (by simp; omega) ?hl ?_)
          case hg =>
            intro j u hj
            rw [cell_of_heap (heap_new wq _)]
            simpa using hj
          case hl => simp; omega
          intro v1 w4 hR4 hB4 hg4 hat4
          have HR4 := Lib.hid hR4
          have HB4 := Lib.hid hB4
          clear hg4 hat4 hR4 hB4
          go_wp2
          refine ⟨⟨r.drop (i + 1), acc ++ [x], rfl, by simp; omega, Lib.hid ?_, Lib.hid ?_, HB4⟩, by simp only [strLen, ofL_size, List.length_drop, List.length_nil]; omega⟩
          · rw [hsp.out, HS.out]; simp
          · have := HR4.out
            rw [List.map_append, List.map_append]
            simpa [HST.out] using this
        · have HST := Lib.hid (strip_not hm h13)
          have hq : ((((ofL x)[m]'(by omega)).toNat : Int) == 13) = false := by
            rw [hge]
            have : (x[m]'(by omega)).toNat ≠ 13 := fun e => h13 (UInt8.toNat_inj.1 e)
            rw [beq_eq_false_iff_ne]
            intro e
            exact this (by omega)
          clear h13 hge
          go_wp2_with (at_builtin; refine kapp (w0 := w) Kd.string w.heap.size rfl _ _ 29 9 (.string ⟨#[]⟩) 16 rfl Tryd.underlying29 (by kernel_rfl) rfl (by decide) (by decide) _ ((acc.map strip).map ofL) (ofL x) [.string (ofL x)] (fun _ => True) (fun _ => False) _ rfl rfl ?hg rfl (fun _ h => h.elim) (fun _ _ => trivial) (Kd.R_alloc HRq.out _) (HBq.out.alloc hszq _) (by simp; omega) ?hl ?_)
          case hg =>
            intro j u hj
            rw [cell_of_heap (heap_new wq _)]
            simpa using hj
          case hl => simp; omega
          intro v1 w4 hR4 hB4 hg4 hat4
          have HR4 := Lib.hid hR4
          have HB4 := Lib.hid hB4
          clear hg4 hat4 hR4 hB4
          go_wp2
          refine ⟨⟨r.drop (i + 1), acc ++ [x], rfl, by simp; omega, Lib.hid ?_, Lib.hid ?_, HB4⟩, by simp only [strLen, ofL_size, List.length_drop, List.length_nil]; omega⟩
          · rw [hsp.out, HS.out]; simp
          · have := HR4.out
            rw [List.map_append, List.map_append]
            simpa [HST.out] using this
    · have HS := Lib.hid (rawL_no hne hc)
      have hix : ixInt 10 r = -1 := by rw [ixInt, if_neg hc]
      clear hc hne
      go_wp2_with fail
      refine (HI.out r wr (by omega)).mono ?_
      rintro e w1 ⟨rfl, rfl⟩
      rw [hix]
      have HRq := hR
      have HBq := hbel
      have hszq := hszr
      generalize w1 = wq at HRq HBq hszq ⊢
      clear hR hbel hszr
      have hxl : r.length ≤ r.length := Nat.le_refl _
      by_cases hx0 : r.length = 0
      · exact absurd hx0 hr0
      · obtain ⟨m, hm⟩ : ∃ m, r.length = m + 1 := ⟨r.length - 1, by omega⟩
        have hz : (ofL r).size = m + 1 := by rw [ofL_size]; exact hm
        have hge := ofL_get r m (by omega)
        have hlm : m + 1 ≤ r.length := by omega
        by_cases h13 : r[m]'(by omega) = 13
        · have HST := Lib.hid (strip_yes hm h13)
          have hq : ((((ofL r)[m]'(by omega)).toNat : Int) == 13) = true := by rw [hge, h13]; rfl
          have hex3 := ofL_extract r 0 m
          rw [List.drop_zero, Nat.sub_zero] at hex3
          clear h13 hge
          go_wp2_with (at_builtin; refine kapp (w0 := w) Kd.string w.heap.size rfl _ _ 29 9 (.string ⟨#[]⟩) 16 rfl Tryd.underlying29 (by kernel_rfl) rfl (by decide) (by decide) _ ((acc.map strip).map ofL) (ofL (r.take m)) [.string (ofL (r.take m))] (fun _ => True) (fun _ => False) _ rfl rfl ?hg rfl (fun _ h => h.elim) (fun _ _ => trivial) (Kd.R_alloc HRq.out _) (HBq.out.alloc hszq _) (by simp; omega) ?hl ?_)
          case hg =>
            intro j u hj
            rw [cell_of_heap (heap_new wq _)]
            simpa using hj
          case hl => simp; omega
          intro v1 w4 hR4 hB4 hg4 hat4
          have HR4 := Lib.hid hR4
          have HB4 := Lib.hid hB4
          clear hg4 hat4 hR4 hB4
          go_wp2
          refine ⟨⟨[], acc ++ [r], rfl, by simp; omega, Lib.hid ?_, Lib.hid ?_, HB4⟩, by rw [show strLen (Value.string ⟨#[]⟩) = 0 from rfl]; simp only [strLen, ofL_size]; omega⟩
          · rw [hsp.out, HS.out]; simp [rawL_nil]
          · have := HR4.out
            rw [List.map_append, List.map_append]
            simpa [HST.out] using this
        · have HST := Lib.hid (strip_not hm h13)
          have hq : ((((ofL r)[m]'(by omega)).toNat : Int) == 13) = false := by
            rw [hge]
            have : (r[m]'(by omega)).toNat ≠ 13 := fun e => h13 (UInt8.toNat_inj.1 e)
            rw [beq_eq_false_iff_ne]
            intro e
            exact this (by omega)
          clear h13 hge
          go_wp2_with (at_builtin; refine kapp (w0 := w) Kd.string w.heap.size rfl _ _ 29 9 (.string ⟨#[]⟩) 16 rfl Tryd.underlying29 (by kernel_rfl) rfl (by decide) (by decide) _ ((acc.map strip).map ofL) (ofL r) [.string (ofL r)] (fun _ => True) (fun _ => False) _ rfl rfl ?hg rfl (fun _ h => h.elim) (fun _ _ => trivial) (Kd.R_alloc HRq.out _) (HBq.out.alloc hszq _) (by simp; omega) ?hl ?_)
          case hg =>
            intro j u hj
            rw [cell_of_heap (heap_new wq _)]
            simpa using hj
          case hl => simp; omega
          intro v1 w4 hR4 hB4 hg4 hat4
          have HR4 := Lib.hid hR4
          have HB4 := Lib.hid hB4
          clear hg4 hat4 hR4 hB4
          go_wp2
          refine ⟨⟨[], acc ++ [r], rfl, by simp; omega, Lib.hid ?_, Lib.hid ?_, HB4⟩, by rw [show strLen (Value.string ⟨#[]⟩) = 0 from rfl]; simp only [strLen, ofL_size]; omega⟩
          · rw [hsp.out, HS.out]; simp [rawL_nil]
          · have := HR4.out
            rw [List.map_append, List.map_append]
            simpa [HST.out] using this
end Go.Proofs.YteoljiclmhmbnaaDoor.Tx

/-
  Numbers as decimal digits: plain laws; the walks of laws.digits and laws.cell.
-/
set_option linter.unusedVariables false
set_option linter.unusedSimpArgs false
namespace Go.Proofs.YteoljiclmhmbnaaDoor.Tx
open Go.RowKit Go.Proofs.YteoljiclmhmbnaaDoor.K Go.Proofs.YteoljiclmhmbnaaDoorW.PrintWords

theorem digitVal_ofNat {d : Nat} (h : d < 10) : Lib.digitVal (UInt8.ofNat (48 + d)) = some d := by
  unfold Lib.digitVal
  have : (UInt8.ofNat (48 + d)).toNat = 48 + d := by simp; omega
  rw [this, if_pos (by omega)]
  congr 1
  omega
theorem decFrom_append (a b : List UInt8) : ∀ acc, Lib.decFrom acc (a ++ b) = (Lib.decFrom acc a).bind fun n => Lib.decFrom n b := by
  induction a with
  | nil => intro acc; rfl
  | cons x a ih =>
    intro acc
    rw [List.cons_append, Lib.decFrom, Lib.decFrom]
    cases Lib.digitVal x with
    | none => rfl
    | some d => exact ih _
theorem decFrom_digits (u : Nat) : Lib.decFrom 0 (Lib.decDigits u) = some u := by
  induction u using Nat.strongRecOn with
  | ind u ih =>
    rw [Lib.decDigits]
    split
    · rename_i h
      rw [Lib.decFrom, digitVal_ofNat h]
      simp [Lib.decFrom]
    · rename_i h
      rw [decFrom_append, ih (u / 10) (by omega)]
      simp only [Option.bind_some, Lib.decFrom, digitVal_ofNat (Nat.mod_lt u (by omega : 0 < 10))]
      congr 1
      omega
/-- Each byte of a number's digits is a digit. -/
theorem digits_mem (u : Nat) : ∀ b ∈ Lib.decDigits u, 48 ≤ b.toNat ∧ b.toNat ≤ 57 := by
  induction u using Nat.strongRecOn with
  | ind u ih =>
    intro b hb
    rw [Lib.decDigits] at hb
    split at hb
    · rename_i h
      rw [List.mem_singleton.1 hb]
      simp
      omega
    · rename_i h
      rcases List.mem_append.1 hb with hb | hb
      · exact ih (u / 10) (by omega) b hb
      · rw [List.mem_singleton.1 hb]
        simp
        omega
theorem digits_ne (u : Nat) : Lib.decDigits u ≠ [] := by
  rw [Lib.decDigits]
  split
  · simp
  · simp
theorem digits_len (k : Nat) : ∀ u, u < 10 ^ (k + 1) → (Lib.decDigits u).length ≤ k + 1 := by
  induction k with
  | zero => intro u hu; rw [Lib.decDigits, dif_pos (by omega)]; simp
  | succ k ih =>
    intro u hu
    rw [Lib.decDigits]
    split
    · simp
    · rw [List.length_append]
      have := ih (u / 10) (by rw [Nat.pow_succ] at hu; omega)
      simp
      omega
theorem itoa_mem (n : Int) : ∀ b ∈ Lib.itoa n, b = 45 ∨ (48 ≤ b.toNat ∧ b.toNat ≤ 57) := by
  intro b hb
  unfold Lib.itoa at hb
  split at hb
  · rcases List.mem_cons.1 hb with h | h
    · exact .inl h
    · exact .inr (digits_mem _ b h)
  · exact .inr (digits_mem _ b hb)
theorem itoa_no {n : Int} {c : UInt8} (h1 : c ≠ 45) (h2 : c.toNat < 48) : c ∉ Lib.itoa n := by
  intro h
  rcases itoa_mem n c h with h | h
  · exact h1 h
  · omega
theorem itoa_ne (n : Int) : Lib.itoa n ≠ [] := by
  unfold Lib.itoa
  split
  · simp
  · exact digits_ne _
theorem itoa_len7 {n : Int} (h1 : -1000000 ≤ n) (h2 : n ≤ 1000000) : (Lib.itoa n).length ≤ 8 := by
  unfold Lib.itoa
  split
  · have := digits_len 6 n.natAbs (by omega)
    simp
    omega
  · have := digits_len 6 n.toNat (by omega)
    omega
theorem itoa_len {n : Int} (h1 : -100000 < n) (h2 : n < 100000) : (Lib.itoa n).length ≤ 6 := by
  unfold Lib.itoa
  split
  · have := digits_len 4 n.natAbs (by omega)
    simp
    omega
  · have := digits_len 4 n.toNat (by omega)
    omega
theorem atoi_itoa (n : Int) : Lib.atoi (Lib.itoa n) = some n := by
  unfold Lib.itoa
  split
  · rename_i h
    rw [Lib.atoi, if_pos (by rfl), Lib.decNat, decFrom_digits]
    have := digits_ne n.natAbs
    simp [this]
    omega
  · rename_i h
    obtain ⟨b, r, hb⟩ := List.exists_cons_of_ne_nil (digits_ne n.toNat)
    have hm := digits_mem n.toNat b (by rw [hb]; exact List.mem_cons_self ..)
    rw [hb, Lib.atoi, if_neg (by intro e; have := eq_of_beq e; subst this; simp at hm), if_neg (by intro e; have := eq_of_beq e; subst this; simp at hm), ← hb, Lib.decNat, decFrom_digits]
    have := digits_ne n.toNat
    simp [this]
    omega
theorem atoiAll_itoa {n : Int} (h1 : -100000 < n) (h2 : n < 100000) : Lib.atoiAll (Lib.itoa n) = .ok n := by
  rw [Lib.atoiAll_short _ (by have := itoa_len h1 h2; omega), atoi_itoa]
  rfl
theorem ofL_app (a b : List UInt8) : ofL a ++ ofL b = ofL (a ++ b) := by
  apply ba_ext
  simp [ofL]
theorem digit_piece {u : Nat} (h : u < 10) : (⟨#[48, 49, 50, 51, 52, 53, 54, 55, 56, 57]⟩ : ByteArray).extract u (u + 1) = ofL (Lib.decDigits u) := by
  rw [Lib.decDigits_one h]
  have : ∀ v, v < 10 → (⟨#[48, 49, 50, 51, 52, 53, 54, 55, 56, 57]⟩ : ByteArray).extract v (v + 1) = ofL [UInt8.ofNat (48 + v)] := by decide
  exact this u h
set_option maxHeartbeats 400000 in
theorem digits_nat (w : World) (u : Nat) (hu : u ≤ 1000000) : Calls Tryd.prog 51 #[.int .i64 (u : Int)] w fun e w' => e = .returned (.string (ofL (Lib.decDigits u))) ∧ w' = w := by
  induction u using Nat.strongRecOn with
  | ind u ih =>
    have hneg : decide ((u : Int) < 0) = false := decide_eq_false (by omega)
    by_cases h : u < 10
    · have hlt : decide ((u : Int) < 10) = true := decide_eq_true (by omega)
      have hp := digit_piece h
      clear ih
      go_enter Tryd.func51, Tryd.ntmps51
      go_wp2_with fail
      go_ret
      exact ⟨rfl, rfl⟩
    · have hlt : decide ((u : Int) < 10) = false := decide_eq_false (by omega)
      have hd : Lib.decDigits u = Lib.decDigits (u / 10) ++ Lib.decDigits (u % 10) := by
        rw [Lib.decDigits, dif_neg h, Lib.decDigits_one (Nat.mod_lt u (by omega))]
      have I1 := Lib.hid (ih (u / 10) (by omega) (by omega))
      have I2 := Lib.hid (ih (u % 10) (by omega) (by omega))
      have za : (ofL (Lib.decDigits (u / 10))).size ≤ 7 := by rw [ofL_size]; exact digits_len 6 _ (by omega)
      have zb : (ofL (Lib.decDigits (u % 10))).size ≤ 7 := by rw [ofL_size]; exact digits_len 6 _ (by omega)
      rw [show ((u / 10 : Nat) : Int) = (u : Int) / 10 by omega] at I1
      rw [show ((u % 10 : Nat) : Int) = (u : Int) % 10 by omega] at I2
      have HD := Lib.hid hd
      clear ih hd
      go_enter Tryd.func51, Tryd.ntmps51
      go_wp2_with fail
      refine I1.out.mono ?_
      rintro e w1 ⟨rfl, rfl⟩
      go_wp2_with fail
      refine I2.out.mono ?_
      rintro e w1 ⟨rfl, rfl⟩
      go_wp2_with fail
      go_ret
      rw [HD.out, ← ofL_app]
      exact ⟨rfl, rfl⟩
set_option maxHeartbeats 400000 in
theorem digits_any (w : World) (n : Int) (h1 : -1000000 ≤ n) (h2 : n ≤ 1000000) : Calls Tryd.prog 51 #[.int .i64 n] w fun e w' => e = .returned (.string (ofL (Lib.itoa n))) ∧ w' = w := by
  by_cases hn : n < 0
  · have hneg : decide (n < 0) = true := decide_eq_true hn
    have I := Lib.hid (digits_nat w n.natAbs (by omega))
    rw [show ((n.natAbs : Nat) : Int) = -n by omega] at I
    have HI : Hid (Lib.itoa n = [45] ++ Lib.decDigits n.natAbs) := Lib.hid (by rw [Lib.itoa, if_pos hn]; rfl)
    have hwn : IntKind.i64.wrap (-n) = -n := IntWalk.i64_in _ (by omega)
    have zb : (ofL (Lib.decDigits n.natAbs)).size ≤ 7 := by rw [ofL_size]; exact digits_len 6 _ (by omega)
    go_enter Tryd.func51, Tryd.ntmps51
    go_wp2_with fail
    refine I.out.mono ?_
    rintro e w1 ⟨rfl, rfl⟩
    go_wp2_with fail
    go_ret
    rw [HI.out, ← ofL_app]
    exact ⟨rfl, rfl⟩
  · have := digits_nat w n.toNat (by omega)
    rw [show ((n.toNat : Nat) : Int) = n by omega] at this
    rw [Lib.itoa, if_neg hn]
    exact this
/-- A line of a matrix. -/
def lineL (x : Int × Int × Int) : List UInt8 := Lib.itoa x.1 ++ ([32] ++ (Lib.itoa x.2.1 ++ ([32] ++ (Lib.itoa x.2.2))))
end Go.Proofs.YteoljiclmhmbnaaDoor.Tx

/-
  builder.parseUnkDef: what its loop keeps (memory, and plainly).
-/
set_option linter.unusedVariables false
set_option linter.unusedSimpArgs false
namespace Go.Proofs.YteoljiclmhmbnaaDoor.Tx
open Go Go.RowKit Go.Proofs.YteoljiclmhmbnaaDoor.K Go.Proofs.YteoljiclmhmbnaaDoorW.PrintWords Go.Proofs.YteoljiclmhmbnaaDoor.Mi Go.Maps

theorem atoi_call (l : List UInt8) (v : Int) (hl : l.length ≤ 100) (h : Lib.atoiAll l = .ok v) (w : World) :
    Calls Tryd.prog 97 #[.string (ofL l)] w fun e w' => e = .returned (.tuple #[.int .i64 v, .nilIface]) ∧ Below w.heap.size w w' := by
  refine (Tryd.strconv_Atoi_ok (ofL l) (by rw [ofL_size]; omega) v (by rw [show (ofL l).data.toList = l from toL_ofL l]; exact h) w).mono ?_
  rintro e w' ⟨rfl, rfl | ⟨t, rfl⟩⟩
  · exact ⟨rfl, Below.refl _ _⟩
  · exact ⟨rfl, Lib.bytesWorld_below _ _ _⟩

/-- One-cell values as they are. -/
def kV : Kd Value where
  sz := 1
  E := []
  K := fun _ x cs => cs = [x] ∧ x.oneCell' = true
  M := fun _ _ _ x cs => cs = [x] ∧ x.oneCell' = true
  K_len := by rintro w x cs ⟨rfl, _⟩; rfl
  K_one := by rintro w x cs ⟨rfl, h⟩ u hu; rw [List.mem_singleton.1 hu]; exact h
  K_below := fun _ h => h
  K_of_M := fun h => h
  M_mono := fun _ h => h
  M_bound := fun h => h
  M_move := fun _ h => h
  M_lower := fun _ h => h
abbrev Mo : Type := Int × Int × Int
def kMo : Kd Mo := Kd.pair (Kd.int .i16) (Kd.pair (Kd.int .i16) (Kd.int .i16))
theorem mo_info : (Tryd.prog.info? 171).map (fun i => (i.zero, i.size, i.bytes)) = some (some (.agg #[.int .i16 0, .int .i16 0, .int .i16 0]), kMo.sz, 6) := by
  show _ = some (some (Value.agg #[.int .i16 0, .int .i16 0, .int .i16 0]), 3, 6)
  kernel_rfl
theorem strs_info : (Tryd.prog.info? 29).map (fun i => (i.zero, i.size, i.bytes)) = some (some (.slice none 0 0), kV.sz, 24) := by
  show _ = some (some (Value.slice none 0 0), 1, 24)
  kernel_rfl
theorem mo_M (w : World) (base : Nat) (ok : Nat → Prop) (a b c : Int) : kMo.M w base ok (a, b, c) [.int .i16 a, .int .i16 b, .int .i16 c] := ⟨[.int .i16 a], [.int .i16 b, .int .i16 c], rfl, rfl, [.int .i16 b], [.int .i16 c], rfl, rfl, rfl⟩
/-- A row stays where nothing that it may lie in turns. -/
theorem R_hold {α : Type} {d : Kd α} {e base : Nat} {ok : Nat → Prop} {v : Value} {xs : List α} {w w1 : World} (h : d.R e w base ok v xs) (hm : ∀ k, ok k → w1.heap[k]? = w.heap[k]?) : d.R e w1 base ok v xs := by
  obtain ⟨h0, inner, ho, hr⟩ := h
  exact ⟨h0, inner, own_keep ho (fun k hk => hm k (h0 k hk)), hr.imp_ fun _ _ hx => d.M_move (fun k hk => hm k hk.1) hx⟩

section
variable {P : Program} {ops : Array Oper} {o : Oper} {a : Act} {Q : Exit → Act → World → Prop} {K : Act → World → Prop}
/-- append(v, p) at a step of a region that draws. -/
theorem kapp_step {α : Type} (d : Kd α) {w0 W : World} (base : Nat) (hw : Region.wanted o (yielded ops a.tmps) = true) (s x : Operand) (t e : TypeId) (z : Value) (bytes : Nat)
    (ho : o.op = .call { callee := .builtin .append, args := #[s, x], argTypes := #[t, t] })
    (ht : P.underlying t = some (.slice e)) (hinfo : (P.info? e).map (fun i => (i.zero, i.size, i.bytes)) = some (some z, d.sz, bytes)) (hz : z.cells.size = d.sz) (hs0 : 0 < d.sz) (hb0 : 0 < bytes)
    (v : Value) (xs : List α) (p : α) (cs : List Value) (ok okp : Nat → Prop) (g : Nat) (hs : a.eval s = v) (hx : a.eval x = .slice (some ⟨g, 0, none⟩) 1 1) (hg : ∀ j u, cs[j]? = some u → W.cell? ⟨g, j, none⟩ = some u)
    (hp : d.M W base okp p cs) (hokp : ∀ k, okp k → ok k ∧ some k ≠ v.ownBlock) (hfresh : ∀ k, W.heap.size ≤ k → ok k)
    (HO : d.R e W base ok v xs) (HB : Below base w0 W) (hbase : base ≤ W.heap.size) (hl : (xs.length + 1) * bytes ≤ 140737488355328)
    (h : ∀ v1 w1, d.R e w1 base ok v1 (xs ++ [p]) → Below base w0 w1 → W.grownBy w1 v.ownBlock → K (a.put o.dst v1) w1) :
    if Region.wanted o (yielded ops a.tmps) = true then Oper.wp P o a W K Q else K (a.put o.dst undef) W := by
  rw [if_pos hw]
  obtain ⟨i0, hi, hzz⟩ := Option.map_eq_some_iff.1 hinfo
  simp only [Prod.mk.injEq] at hzz
  obtain ⟨hz0, hz1, hz2⟩ := hzz
  have hlen : xs.length + 1 ≤ 140737488355328 := Nat.le_trans (Nat.le_mul_of_pos_right _ hb0) hl
  obtain ⟨h0, inner, hown, hr⟩ := HO
  have hcl : cs.length = d.sz := d.K_len (d.K_of_M hp)
  obtain ⟨v1, w1, hrun, hown1, hgr, _, hat⟩ := run_append_own_at (P := P) W base t o.type e i0 z d.sz bytes ht hi hz0 hz1 hz2 hz hs0 v xs.length inner hown ⟨g, 0, none⟩ 1 1 cs (by omega)
    (by
      intro j u hj
      have := hg j u hj
      rcases Nat.eq_zero_or_pos j with rfl | hj0
      · simpa [Addr.add] using this
      · rw [Addr.add]; simp; rw [if_neg (by omega)]; exact this)
    (d.K_one (d.K_of_M hp)) (by simp only [maxLen]; omega) hl (by omega)
  have hat' : v1.ownBlock = v.ownBlock ∨ ∃ b, v1.ownBlock = some b ∧ W.heap.size ≤ b := by
    rcases hat with hat | hat
    · exact .inl hat
    · exact .inr ⟨_, hat, Nat.le_refl _⟩
  unfold Oper.wp execOp
  simp only [ho, resolve, invoke, builtin, Sem.run_bind, Sem.run_pure, Result.andThen_ok, List.map_toArray, List.map_cons, List.map_nil, hs, hx, hrun]
  exact h v1 w1 (Kd.R_appended h0 hr hp hokp hfresh hown1 hgr hat') (HB.grown hgr hbase (own_base hown)) hgr
end

/-- The record of an entry, by the names of the classes. -/
def rowU (ns : List ByteArray) (u : Un) : List ByteArray := ns.getD u.1.toNat default :: ofL (Lib.itoa u.2.1) :: ofL (Lib.itoa u.2.2.1) :: ofL (Lib.itoa u.2.2.2.1) :: u.2.2.2.2
/-- An entry that can be written as a record. -/
structure OkU (ns : List ByteArray) (u : Un) : Prop where
  c : 0 ≤ u.1 ∧ u.1 < ns.length
  l : 0 ≤ u.2.1 ∧ u.2.1 ≤ 1000
  r : 0 ≤ u.2.2.1 ∧ u.2.2.1 ≤ 1000
  w : -30000 ≤ u.2.2.2.1 ∧ u.2.2.2.1 ≤ 30000
  n : u.2.2.2.2.length = 2
def moU (u : Un) : Mo := (u.2.1, u.2.2.1, u.2.2.2.1)
/-- The first place of a class; how many there are besides. -/
def idxF (l : List Nat) (c : Nat) : Option Nat := if c ∈ l then some (l.idxOf c) else none
def dupF (l : List Nat) (c : Nat) : Option Nat := if 2 ≤ l.count c then some (l.count c - 1) else none
theorem idxF_nil : idxF [] = fun _ => none := by funext c; simp [idxF]
theorem dupF_nil : dupF [] = fun _ => none := by funext c; simp [dupF]
theorem idxF_some {l : List Nat} {c : Nat} : (idxF l c).isSome = decide (c ∈ l) := by unfold idxF; by_cases h : c ∈ l <;> simp [h]
theorem idxF_new {l : List Nat} {c : Nat} (h : c ∉ l) : (fun x => if x = c then some l.length else idxF l x) = idxF (l ++ [c]) := by
  funext x
  unfold idxF
  by_cases e : x = c
  · subst e
    rw [if_pos rfl, if_pos (by simp), List.idxOf_append, if_neg h]
    simp
  · rw [if_neg e]
    by_cases hx : x ∈ l
    · rw [if_pos hx, if_pos (by simp [hx]), List.idxOf_append, if_pos hx]
    · rw [if_neg hx, if_neg (by simp [hx, e])]
theorem idxF_old {l : List Nat} {c : Nat} (h : c ∈ l) : idxF (l ++ [c]) = idxF l := by
  funext x
  unfold idxF
  by_cases hx : x ∈ l
  · rw [if_pos hx, if_pos (by simp [hx]), List.idxOf_append, if_pos hx]
  · rw [if_neg hx, if_neg (by
      intro e
      rcases List.mem_append.1 e with e | e
      · exact hx e
      · rw [List.mem_singleton.1 e] at hx
        exact hx h)]
theorem dupF_new {l : List Nat} {c : Nat} (h : c ∉ l) : dupF (l ++ [c]) = dupF l := by
  funext x
  unfold dupF
  rw [List.count_append]
  by_cases e : x = c
  · subst e
    have : l.count x = 0 := List.count_eq_zero.2 h
    rw [this]
    simp
  · have : [c].count x = 0 := by rw [List.count_eq_zero]; simpa using e
    rw [this, Nat.add_zero]
theorem dupF_old {l : List Nat} {c : Nat} (h : c ∈ l) : (fun x => if x = c then some ((dupF l c).getD 0 + 1) else dupF l x) = dupF (l ++ [c]) := by
  funext x
  have hp := List.count_pos_iff.2 h
  by_cases e : x = c
  · subst e
    rw [if_pos rfl]
    unfold dupF
    rw [List.count_append, show [x].count x = 1 by simp]
    rw [if_pos (show 2 ≤ l.count x + 1 by omega)]
    by_cases h2 : 2 ≤ l.count x
    · rw [if_pos h2]
      simp only [Option.getD_some]
      congr 1
      omega
    · rw [if_neg h2]
      simp only [Option.getD_none]
      congr 1
      omega
  · rw [if_neg e]
    unfold dupF
    rw [List.count_append]
    have : [c].count x = 0 := by rw [List.count_eq_zero]; simpa using e
    rw [this, Nat.add_zero]
theorem dupF_le (l : List Nat) (c : Nat) : (dupF l c).getD 0 ≤ l.length := by
  unfold dupF
  split
  · have := List.count_le_length (a := c) (l := l)
    simp
    omega
  · simp

/-- What stands behind the first four columns. -/
def tailV : Value → Value
  | .slice (some ad) n c => .slice (some (ad.add 4)) (n - 4) (c - 4)
  | v => v
def clsU (u : Un) : Nat := u.1.toNat
theorem Head.map1 {m1 m2 m3 p : Nat} {w0 w : World} (h : Head true true true true true true true m1 m2 m3 p w0 w) : MapI m1 (idxF []) 0 (.map []) w ∧ MapI m2 (dupF []) 0 (.map []) w := by
  rw [idxF_nil, dupF_nil]
  exact ⟨MapI.empty (h.f0 rfl).2, MapI.empty (h.f1 rfl).2⟩
/-- What the loop has made behind k records. -/
structure PSt (S : List Un) (inner : List Value) (B : Nat) (w3 : World) (p m1 m2 m3 k : Nat) (wr : World) : Prop where
  hb : Below B w3 wr
  hB : B ≤ p ∧ B ≤ m1 ∧ B ≤ m2 ∧ B ≤ m3 ∧ B ≤ w3.heap.size
  n12 : m1 ≠ m2
  n13 : m1 ≠ m3
  n23 : m2 ≠ m3
  ix : ∃ D, MapI m1 (idxF ((S.take k).map clsU)) k D wr
  du : ∃ D, MapI m2 (dupF ((S.take k).map clsU)) k D wr
  me : wr.ownsMap Tryd.prog tS (plainElem Tryd.prog tI8) m3 2 (D3 true true)
  row : ∃ vM vC, wr.heap[p]? = some (.cells #[vM, .map (some m1), .map (some m2), .map (some m3), vC] tUnk (0, 0)) ∧ kMo.R 171 wr B (fun q => q ≠ p) vM ((S.take k).map moU) ∧ kV.R 29 wr B (fun q => q ≠ p) vC ((inner.take k).map tailV)
/-- .. the maps one record ahead of the rows. -/
structure PMid (S : List Un) (inner : List Value) (B : Nat) (w3 : World) (p m1 m2 m3 k : Nat) (wr : World) : Prop where
  hb : Below B w3 wr
  hB : B ≤ p ∧ B ≤ m1 ∧ B ≤ m2 ∧ B ≤ m3 ∧ B ≤ w3.heap.size
  n12 : m1 ≠ m2
  n13 : m1 ≠ m3
  n23 : m2 ≠ m3
  ix : ∃ D, MapI m1 (idxF ((S.take (k + 1)).map clsU)) (k + 1) D wr
  du : ∃ D, MapI m2 (dupF ((S.take (k + 1)).map clsU)) (k + 1) D wr
  me : wr.ownsMap Tryd.prog tS (plainElem Tryd.prog tI8) m3 2 (D3 true true)
  row : ∃ vM vC, wr.heap[p]? = some (.cells #[vM, .map (some m1), .map (some m2), .map (some m3), vC] tUnk (0, 0)) ∧ kMo.R 171 wr B (fun q => q ≠ p) vM ((S.take k).map moU) ∧ kV.R 29 wr B (fun q => q ≠ p) vC ((inner.take k).map tailV)
theorem MapI.mono {b m : Nat} {f : Nat → Option Nat} {D : DataW Unit} {w : World} (h : MapI b f m D w) {m' : Nat} (hm : m ≤ m') : MapI b f m' D w := ⟨h.own.mono hm, h.isM, h.at_, h.ks⟩
theorem R_not_map {α : Type} {d : Kd α} {e base : Nat} {ok : Nat → Prop} {v : Value} {xs : List α} {w w' : World} {m : Nat} (h : d.R e w base ok v xs) (hE : ∀ q ∈ d.E, True) (hm : ∃ es cl, w.heap[m]? = some (.map es cl)) (hg : w.grownBy w' (some m)) : d.R e w' base ok v xs := by
  obtain ⟨es, cl, hm⟩ := hm
  have h0 := Kd.R_bound h
  have hne : ∀ k, (∃ cells q, w.heap[k]? = some (.cells cells q (0, 0))) → k ≠ m := fun k hk e => by
    obtain ⟨cells, q, h1⟩ := hk
    rw [e, hm] at h1
    cases h1
  refine Kd.R_mono (R_hold h0 (fun k hk => hg.block k hk.2.2.1 (fun e => ?_))) (fun k hk => hk.1)
  obtain ⟨_, _, _, q, _, cells, hc⟩ := hk
  exact hne k ⟨cells, q, hc⟩ (Option.some.inj e)
theorem mapAt {f : Nat → Option Nat} {b m : Nat} {D : DataW Unit} {w : World} (h : MapI b f m D w) : ∃ es cl, w.heap[b]? = some (.map es cl) := by
  obtain ⟨es, cl, h1, _⟩ := h.own
  exact ⟨es, cl, h1⟩
theorem PSt.mid {S : List Un} {inner : List Value} {B : Nat} {w3 : World} {p m1 m2 m3 k : Nat} {wr w5 : World} (h : PSt S inner B w3 p m1 m2 m3 k wr) {m : Nat} (hm : m = m1 ∨ m = m2) (hg : wr.grownBy w5 (some m))
    (h1 : ∃ D, MapI m1 (idxF ((S.take (k + 1)).map clsU)) (k + 1) D w5) (h2 : ∃ D, MapI m2 (dupF ((S.take (k + 1)).map clsU)) (k + 1) D w5) : PMid S inner B w3 p m1 m2 m3 k w5 := by
  have hma : ∃ es cl, wr.heap[m]? = some (.map es cl) := by
    rcases hm with rfl | rfl
    · obtain ⟨D, hx⟩ := h.ix; exact mapAt hx
    · obtain ⟨D, hx⟩ := h.du; exact mapAt hx
  have hzm : B ≤ m := by rcases hm with rfl | rfl; exact h.hB.2.1; exact h.hB.2.2.1
  obtain ⟨vM, vC, r1, r2, r3⟩ := h.row
  refine ⟨h.hb.grown hg (Nat.le_trans h.hB.2.2.2.2 h.hb.size) (fun k hk => by cases hk; exact hzm), h.hB, h.n12, h.n13, h.n23, h1, h2, ?_, ⟨vM, vC, ?_, R_not_map r2 (fun _ _ => trivial) hma hg, R_not_map r3 (fun _ _ => trivial) hma hg⟩⟩
  · exact h.me.kept hg (fun e => by
      have := Option.some.inj e
      rcases hm with rfl | rfl
      · exact h.n13 this.symm
      · exact h.n23 this.symm)
  · refine (hg.block p (lt_of_heap r1) (fun e => ?_)).trans r1
    obtain ⟨es, cl, hx⟩ := hma
    rw [← Option.some.inj e, r1] at hx
    cases hx
theorem PSt.new {S : List Un} {inner : List Value} {B : Nat} {w3 : World} {p m1 m2 m3 k : Nat} {wr w5 : World} {D : DataW Unit} {j : Nat} (h : PSt S inner B w3 p m1 m2 m3 k wr) (hk : k < S.length) (hj : clsU S[k] = j) (hn : j ∉ (S.take k).map clsU)
    (hM : MapI m1 (fun x => if x = j then some k else idxF ((S.take k).map clsU) x) (k + 1) D w5) (hg : wr.grownBy w5 (some m1)) : PMid S inner B w3 p m1 m2 m3 k w5 := by
  have he : (S.take (k + 1)).map clsU = (S.take k).map clsU ++ [j] := by rw [List.take_succ_eq_append_getElem hk, List.map_append, List.map_singleton, hj]
  have hl : ((S.take k).map clsU).length = k := by rw [List.length_map, List.length_take]; omega
  refine h.mid (.inl rfl) hg ⟨D, ?_⟩ ?_
  · rw [he, ← idxF_new hn, hl]
    exact hM
  · obtain ⟨D2, h2⟩ := h.du
    rw [he, dupF_new hn]
    exact ⟨D2, MapI.mono (h2.keep (hg.block m2 h2.lt (fun e => h.n12 (Option.some.inj e).symm))) (Nat.le_succ k)⟩
theorem PSt.old {S : List Un} {inner : List Value} {B : Nat} {w3 : World} {p m1 m2 m3 k : Nat} {wr w5 : World} {D : DataW Unit} {j : Nat} (h : PSt S inner B w3 p m1 m2 m3 k wr) (hk : k < S.length) (hj : clsU S[k] = j) (hn : j ∈ (S.take k).map clsU)
    (hM : MapI m2 (fun x => if x = j then some ((dupF ((S.take k).map clsU) j).getD 0 + 1) else dupF ((S.take k).map clsU) x) (k + 1) D w5) (hg : wr.grownBy w5 (some m2)) : PMid S inner B w3 p m1 m2 m3 k w5 := by
  have he : (S.take (k + 1)).map clsU = (S.take k).map clsU ++ [j] := by rw [List.take_succ_eq_append_getElem hk, List.map_append, List.map_singleton, hj]
  refine h.mid (.inr rfl) hg ?_ ⟨D, ?_⟩
  · obtain ⟨D1, h1⟩ := h.ix
    rw [he, idxF_old hn]
    exact ⟨D1, MapI.mono (h1.keep (hg.block m1 h1.lt (fun e => h.n12 (Option.some.inj e)))) (Nat.le_succ k)⟩
  · rw [he, ← dupF_old hn]
    exact hM
theorem PMid.below {S : List Un} {inner : List Value} {B : Nat} {w3 : World} {p m1 m2 m3 k : Nat} {wr w5 : World} (h : PMid S inner B w3 p m1 m2 m3 k wr) (hb : Below wr.heap.size wr w5) : PMid S inner B w3 p m1 m2 m3 k w5 := by
  obtain ⟨D1, h1⟩ := h.ix
  obtain ⟨D2, h2⟩ := h.du
  obtain ⟨vM, vC, r1, r2, r3⟩ := h.row
  refine ⟨h.hb.trans (hb.mono (Nat.le_trans h.hB.2.2.2.2 h.hb.size)), h.hB, h.n12, h.n13, h.n23, ⟨D1, h1.below hb⟩, ⟨D2, h2.below hb⟩, ?_, ⟨vM, vC, (hb.block p (lt_of_heap r1)).trans r1, Kd.R_below r2 hb, Kd.R_below r3 hb⟩⟩
  obtain ⟨es, cl, hx, r⟩ := h.me
  exact ⟨es, cl, (hb.block m3 (lt_of_heap hx)).trans hx, r⟩
/-- Maps stay, and nothing below B turns. -/
structure MidR (S : List Un) (B m1 m2 m3 k : Nat) (w w' : World) : Prop where
  hb : Below B w w'
  ms : ∀ m, m = m1 ∨ m = m2 ∨ m = m3 → (∃ es cl, w.heap[m]? = some (.map es cl)) → ∃ es cl, w.heap[m]? = some (.map es cl) ∧ w'.heap[m]? = some (.map es cl)
theorem PSt.zero {S : List Un} {inner : List Value} {w1 w2 w3 : World} {p m1 m2 m3 : Nat} {g : Nat} (h : Head true true true true true true true m1 m2 m3 p w1 w2) (hg : w2.grownBy w3 (some g)) (hgl : g < w1.heap.size) :
    PSt S inner w1.heap.size w3 p m1 m2 m3 0 w3 := by
  have hk : ∀ k, w1.heap.size ≤ k → k < w2.heap.size → w3.heap[k]? = w2.heap[k]? := fun k h1 h2 => hg.block k h2 (fun e => by rw [Option.some.inj e] at h1; omega)
  obtain ⟨i1, i2⟩ := h.map1
  refine ⟨Below.refl _ _, ⟨(h.f17 rfl).1, (h.f0 rfl).1, (h.f1 rfl).1, (h.f2 rfl).1, Nat.le_trans h.hb.size hg.size⟩, h.n01 rfl rfl, h.n02 rfl rfl, h.n12 rfl rfl, ⟨_, i1.keep (hk _ (h.f0 rfl).1 i1.lt)⟩, ⟨_, i2.keep (hk _ (h.f1 rfl).1 i2.lt)⟩, ?_, ⟨.slice none 0 0, .slice none 0 0, ?_, Kd.R_nil _ _ _ _ _, Kd.R_nil _ _ _ _ _⟩⟩
  · obtain ⟨es, cl, h1, r⟩ := (h.f2 rfl).2
    exact ⟨es, cl, (hk _ (h.f2 rfl).1 (lt_of_heap h1)).trans h1, r⟩
  · exact (hk _ (h.f17 rfl).1 (lt_of_heap (h.f17 rfl).2)).trans (h.f17 rfl).2
theorem Head.op18 {m1 m2 m3 p : Nat} {w0 w : World} (h : Head true true true true true true false m1 m2 m3 p w0 w) :
    Head true true true true true true true m1 m2 m3 p w0 (((((w.setCell ⟨p, 0, none⟩ (.slice none 0 0)).setCell ⟨p, 1, none⟩ (.map (some m1))).setCell ⟨p, 2, none⟩ (.map (some m2))).setCell ⟨p, 3, none⟩ (.map (some m3))).setCell ⟨p, 4, none⟩ (.slice none 0 0)) := by
  obtain ⟨hp, hpc⟩ := h.f17 rfl
  rw [if_neg (by decide)] at hpc
  have hne : ∀ k, k ≠ p → (((((w.setCell ⟨p, 0, none⟩ (.slice none 0 0)).setCell ⟨p, 1, none⟩ (.map (some m1))).setCell ⟨p, 2, none⟩ (.map (some m2))).setCell ⟨p, 3, none⟩ (.map (some m3))).setCell ⟨p, 4, none⟩ (.slice none 0 0)).heap[k]? = w.heap[k]? := fun k hk => by
    rw [heap_set_ne hk, heap_set_ne hk, heap_set_ne hk, heap_set_ne hk, heap_set_ne hk]
  have e1 : m1 ≠ p := fun e => by have := (h.f0 rfl).2; rw [e, hpc] at this; cases this
  have e2 : m2 ≠ p := fun e => by have := (h.f1 rfl).2; rw [e, hpc] at this; cases this
  refine ⟨((((h.hb.setCell hp _).setCell hp _).setCell hp _).setCell hp _).setCell hp _, fun _ => ⟨(h.f0 rfl).1, (hne _ e1).trans (h.f0 rfl).2⟩, fun _ => ⟨(h.f1 rfl).1, (hne _ e2).trans (h.f1 rfl).2⟩, fun _ => ⟨(h.f2 rfl).1, ?_⟩, fun _ => ⟨hp, ?_⟩, h.n01, h.n02, h.n12⟩
  · obtain ⟨es, cl, h1, r⟩ := (h.f2 rfl).2
    have e3 : m3 ≠ p := fun e => by rw [e, hpc] at h1; cases h1
    exact ⟨es, cl, (hne _ e3).trans h1, r⟩
  · rw [if_pos rfl, heap_set (heap_set (heap_set (heap_set (heap_set hpc _ _) _ _) _ _) _ _) _ _]
    rfl
end Go.Proofs.YteoljiclmhmbnaaDoor.Tx

/-
  Lists in which equal ones stand side by side (plain).
-/
set_option linter.unusedVariables false
set_option linter.unusedSimpArgs false
namespace Go.Proofs.YteoljiclmhmbnaaDoor.Tx
open Go

/-- Equal ones stand side by side. -/
def Grp (l : List Nat) : Prop := ∀ i m j (hi : i < l.length) (hm : m < l.length) (hj : j < l.length), i < m → m < j → l[i] = l[j] → l[m] = l[i]
theorem Grp.tail {x : Nat} {l : List Nat} (h : Grp (x :: l)) : Grp l := fun i m j hi hm hj h1 h2 e =>
  h (i + 1) (m + 1) (j + 1) (by simpa using hi) (by simpa using hm) (by simpa using hj) (by omega) (by omega) (by simpa using e)
theorem Grp.split {c : Nat} : ∀ {l : List Nat}, Grp l → c ∈ l → ∃ a b n, l = a ++ List.replicate (n + 1) c ++ b ∧ c ∉ a ∧ c ∉ b
  | [], _, h => by simp at h
  | x :: r, hg, h => by
    by_cases hr : c ∈ r
    · obtain ⟨a, b, n, rfl, ha, hb⟩ := Grp.split hg.tail hr
      by_cases hx : x = c
      · subst hx
        cases a with
        | nil => exact ⟨[], b, n + 1, by simp [List.replicate_succ], by simp, hb⟩
        | cons y a =>
          exfalso
          have h1 := hg 0 1 (a.length + 2) (by simp) (by simp) (by simp; omega) (by omega) (by omega)
          simp only [List.cons_append, List.getElem_cons_zero, List.getElem_cons_succ] at h1
          have h2 : (a ++ List.replicate (n + 1) x ++ b)[a.length]'(by simp; omega) = x := by
            rw [List.getElem_append_left (by simp), List.getElem_append_right (by omega)]
            simp
          simp only [List.append_assoc] at h1 h2
          have h3 := h1 h2.symm
          exact ha (by rw [h3]; exact List.mem_cons_self ..)
      · exact ⟨x :: a, b, n, by simp, by simp; exact ⟨fun e => hx e.symm, ha⟩, hb⟩
    · have hx : c = x := by
        rcases List.mem_cons.1 h with h | h
        · exact h
        · exact absurd h hr
      subst hx
      exact ⟨[], r, 0, by simp, by simp, hr⟩
theorem grp_count {c : Nat} {a b : List Nat} {n : Nat} (ha : c ∉ a) (hb : c ∉ b) : (a ++ List.replicate (n + 1) c ++ b).count c = n + 1 ∧ (a ++ List.replicate (n + 1) c ++ b).idxOf c = a.length := by
  constructor
  · rw [List.count_append, List.count_append, List.count_eq_zero.2 ha, List.count_eq_zero.2 hb, List.count_replicate_self]
    omega
  · rw [List.append_assoc, List.idxOf_append, if_neg ha, List.replicate_succ, List.cons_append, List.idxOf_cons_self]
    simp
theorem grp_idx {l : List Nat} (hg : Grp l) {c q d : Nat} (hq : idxF l c = some q) (hd : (dupF l c).getD 0 = d) : q + d < l.length ∧ ∀ i (hi : i < l.length), (q ≤ i ∧ i ≤ q + d) ↔ l[i] = c := by
  have hc : c ∈ l := by
    unfold idxF at hq
    split at hq
    · assumption
    · cases hq
  obtain ⟨a, b, n, rfl, ha, hb⟩ := hg.split hc
  obtain ⟨h1, h2⟩ := grp_count (n := n) ha hb
  unfold idxF at hq
  rw [if_pos hc, h2] at hq
  obtain rfl := Option.some.inj hq
  have hdn : d = n := by
    unfold dupF at hd
    rw [h1] at hd
    by_cases h3 : 2 ≤ n + 1
    · rw [if_pos h3] at hd
      simp at hd
      omega
    · rw [if_neg h3] at hd
      simp at hd
      omega
  subst hdn
  refine ⟨by simp; omega, fun i hi => ⟨fun ⟨h3, h4⟩ => ?_, fun e => ?_⟩⟩
  · rw [List.getElem_append_left (by simp; omega), List.getElem_append_right (by omega)]
    simp
  · by_cases h3 : i < a.length
    · rw [List.getElem_append_left (by simp; omega), List.getElem_append_left h3] at e
      exact absurd (e ▸ List.getElem_mem h3) ha
    · by_cases h4 : i < a.length + (d + 1)
      · omega
      · rw [List.getElem_append_right (by simp; omega)] at e
        exact absurd (e ▸ List.getElem_mem _) hb
/-- In the order of the names of their classes, entries of one class stand side by side. -/
theorem grp_sorted {ns : List ByteArray} (hn : ns.Nodup) {T : List Un} (hok : ∀ u ∈ T, OkU ns u) (hs : ∀ i j (hi : i < T.length) (hj : j < T.length), i < j → ¬ (ns.getD T[j].1.toNat default).data.toList < (ns.getD T[i].1.toNat default).data.toList) : Grp (T.map clsU) := by
  intro i m j hi hm hj h1 h2 e
  rw [List.length_map] at hi hm hj
  rw [List.getElem_map, List.getElem_map] at e ⊢
  unfold clsU at e ⊢
  have c1 := (hok _ (List.getElem_mem hi)).c
  have c2 := (hok _ (List.getElem_mem hm)).c
  have s1 := hs i m hi hm h1
  have s2 := hs m j hm hj h2
  rw [← e] at s2
  have he := List.le_antisymm (List.not_lt.1 s1) (List.not_lt.1 s2)
  have l1 : T[i].1.toNat < ns.length := by omega
  have l2 : T[m].1.toNat < ns.length := by omega
  simp only [List.getD, List.getElem?_eq_getElem l1, List.getElem?_eq_getElem l2, Option.getD_some] at he
  have he' : ns[T[i].1.toNat] = ns[T[m].1.toNat] := K.ba_ext (Array.toList_inj.1 he)
  unfold List.Nodup at hn
  rw [List.pairwise_iff_getElem] at hn
  rcases Nat.lt_trichotomy T[i].1.toNat T[m].1.toNat with h3 | h3 | h3
  · exact absurd he' (hn _ _ l1 l2 h3)
  · exact h3.symm
  · exact absurd he'.symm (hn _ _ l2 l1 h3)
end Go.Proofs.YteoljiclmhmbnaaDoor.Tx
