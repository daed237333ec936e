/-
  The walks of zzIndex and zzSplit where the separator is one byte.
-/
import Derived.Test.YtjifoimkjgepcaaDoorK
import Derived.Test.YtjifoimkjgepcaaDoorRows
import Derived.Outline
set_option linter.unusedVariables false
set_option linter.unusedSimpArgs false
namespace Go.Proofs.YtjifoimkjgepcaaDoor.Tx
open Go.RowKit Go.Proofs.YtjifoimkjgepcaaDoor.K Go.Proofs.YtjifoimkjgepcaaDoorW.PrintWords

abbrev one (c : UInt8) : ByteArray := ⟨#[c]⟩
def toL (s : ByteArray) : List UInt8 := s.data.toList
def ofL (l : List UInt8) : ByteArray := ⟨l.toArray⟩
theorem toL_ofL (l : List UInt8) : toL (ofL l) = l := by simp [toL, ofL]
theorem ofL_toL (s : ByteArray) : ofL (toL s) = s := by cases s; simp [toL, ofL]
theorem toL_size (s : ByteArray) : (toL s).length = s.size := by simp [toL]
theorem ofL_size (l : List UInt8) : (ofL l).size = l.length := by simp [ofL, ByteArray.size]

theorem ofL_extract (l : List UInt8) (i j : Nat) : (ofL l).extract i j = ofL ((l.drop i).take (j - i)) := by
  apply ba_ext
  simp [ofL, ByteArray.data_extract, List.extract_eq_take_drop]
theorem ofL_toList (l : List UInt8) : (ofL l).toList = l := by rw [ByteArray.toList_eq]; simp [ofL]
theorem one_toList (c : UInt8) : (one c).toList = [c] := by rw [ByteArray.toList_eq]
theorem take1 (l : List UInt8) (k : Nat) (h : k < l.length) : (l.drop k).take (k + 1 - k) = [l[k]] := by
  rw [Nat.add_sub_cancel_left, List.drop_eq_getElem_cons h]; rfl
theorem not_mem_succ {l : List UInt8} {c : UInt8} {k : Nat} (hk : k < l.length) (h : c ∉ l.take k) (h2 : l[k] ≠ c) : c ∉ l.take (k + 1) := by
  rw [List.take_succ_eq_append_getElem hk]
  intro hm
  rcases List.mem_append.1 hm with hm | hm
  · exact h hm
  · exact h2 (List.mem_singleton.1 hm).symm
theorem idx_at {l : List UInt8} {c : UInt8} {k : Nat} (hk : k < l.length) (h : c ∉ l.take k) (h2 : l[k] = c) : c ∈ l ∧ l.idxOf c = k := by
  have hs : l = l.take k ++ c :: l.drop (k + 1) := by
    rw [← h2, ← List.drop_eq_getElem_cons hk, List.take_append_drop]
  refine ⟨by rw [← h2]; exact List.getElem_mem hk, ?_⟩
  have : (l.take k ++ c :: l.drop (k + 1)).idxOf c = k := by
    rw [List.idxOf_append, if_neg h, List.idxOf_cons_self, List.length_take]; omega
  rw [← hs] at this
  exact this
def ixInt (c : UInt8) (l : List UInt8) : Int := if c ∈ l then (l.idxOf c : Int) else -1

set_option maxHeartbeats 1000000 in
set_option maxRecDepth 5000 in
theorem index_any (l : List UInt8) (c : UInt8) (w : World) (hl : l.length ≤ 9223372036854775806) :
    Calls Tryd.prog 75 #[.string (ofL l), .string (one c)] w fun e w' => e = .returned (.int .i64 (ixInt c l)) ∧ w' = w := by
  have hz : (ofL l).size = l.length := ofL_size l
  have h1 : (one c).size = 1 := rfl
  generalize ho : one c = oc at h1 ⊢
  go_enter Tryd.func75, Tryd.ntmps75
  go_wp2
  go_loopw [5] (fun i wr => ∃ k : Nat, k ≤ l.length ∧ i = .int .i64 k ∧ Hid (c ∉ l.take k) ∧ wr = w) (fun i _ => l.length - (intOf i).toNat)
  case atStart => exact ⟨0, Nat.zero_le _, rfl, Lib.hid (by simp), rfl⟩
  case round =>
    obtain ⟨k, hk, rfl, hall, rfl⟩ := hrel
    by_cases hlt : k < l.length
    · have hex : ((ofL l).extract k (k + 1)).toList = [l[k]] := by rw [ofL_extract, ofL_toList, take1 l k hlt]
      by_cases hx : l[k] = c
      · have ht : (((ofL l).extract k (k + 1)).toList == oc.toList) = true := by rw [hex, ← ho, one_toList, hx]; simp
        have HI := Lib.hid (idx_at hlt hall.out hx)
        clear hx hex
        go_wp2
        go_ret
        exact ⟨by rw [ixInt, if_pos HI.out.1, HI.out.2]; rfl, rfl⟩
      · have ht : (((ofL l).extract k (k + 1)).toList == oc.toList) = false := by rw [hex, ← ho, one_toList]; simpa using hx
        have HI := Lib.hid (not_mem_succ hlt hall.out hx)
        clear hx hex
        go_wp2
        exact ⟨⟨k + 1, by omega, by go_num, HI, trivial⟩, by simp [intOf]; omega⟩
    · go_wp2
      go_ret
      obtain rfl : k = l.length := by omega
      have := hall.out
      rw [List.take_length] at this
      exact ⟨by rw [ixInt, if_neg this]; rfl, rfl⟩

def splitC (c : UInt8) : List UInt8 → List (List UInt8)
  | [] => [[]]
  | x :: r => if x = c then [] :: splitC c r else match splitC c r with
    | h :: t => (x :: h) :: t
    | [] => [[x]]
theorem splitC_ne (c : UInt8) (l : List UInt8) : splitC c l ≠ [] := by
  cases l with
  | nil => simp [splitC]
  | cons x r =>
    rw [splitC]
    split
    · simp
    · split <;> simp
theorem splitC_no {c : UInt8} {l : List UInt8} (h : c ∉ l) : splitC c l = [l] := by
  induction l with
  | nil => rfl
  | cons x r ih =>
    simp only [List.mem_cons, not_or] at h
    rw [splitC, if_neg (fun e => h.1 e.symm), ih h.2]
theorem splitC_app {c : UInt8} {a : List UInt8} (h : c ∉ a) (r : List UInt8) : splitC c (a ++ c :: r) = a :: splitC c r := by
  induction a with
  | nil => rw [List.nil_append, splitC, if_pos rfl]
  | cons x a ih =>
    simp only [List.mem_cons, not_or] at h
    rw [List.cons_append, splitC, if_neg (fun e => h.1 e.symm), ih h.2]
theorem not_mem_idx (c : UInt8) (l : List UInt8) : c ∉ l.take (l.idxOf c) := by
  induction l with
  | nil => simp
  | cons x r ih =>
    rw [List.idxOf_cons]
    by_cases h : x = c
    · simp [h]
    · rw [show (x == c) = false by simpa using h, cond_false, List.take_succ_cons]
      simp only [List.mem_cons, not_or]
      exact ⟨fun e => h e.symm, ih⟩
theorem idx_split {c : UInt8} {l : List UInt8} (h : c ∈ l) : c ∉ l.take (l.idxOf c) ∧ l = l.take (l.idxOf c) ++ c :: l.drop (l.idxOf c + 1) ∧ l.idxOf c < l.length := by
  have hlt := List.idxOf_lt_length_of_mem h
  refine ⟨not_mem_idx c l, ?_, hlt⟩
  · conv => lhs; rw [← List.take_append_drop (l.idxOf c) l, List.drop_eq_getElem_cons hlt]
    rw [List.getElem_idxOf hlt]
theorem splitC_ix {c : UInt8} {l : List UInt8} (h : c ∈ l) : splitC c l = l.take (l.idxOf c) :: splitC c (l.drop (l.idxOf c + 1)) := by
  obtain ⟨h1, h2, _⟩ := idx_split h
  conv => lhs; rw [h2]
  exact splitC_app h1 _
def strLen : Value → Nat
  | .string b => b.size
  | _ => 0

set_option maxHeartbeats 1000000 in
set_option maxRecDepth 5000 in
theorem split_any (l : List UInt8) (c : UInt8) (w : World) (hl : l.length ≤ 8796093022000) :
    Calls Tryd.prog 62 #[.string (ofL l), .string (one c)] w fun e w' => ∃ v, e = .returned v ∧ Kd.string.R 9 w' w.heap.size (fun _ => True) v ((splitC c l).map ofL) ∧ Below w.heap.size w w' := by
  have h1 : (one c).size = 1 := rfl
  have HI := Lib.hid (fun (r : List UInt8) (W : World) (hr : r.length ≤ 8796093022000) => index_any r c W (by omega))
  generalize ho : one c = oc at h1 HI ⊢
  go_enter Tryd.func62, Tryd.ntmps62
  go_wp2
  go_loopw [0, 5] (fun x v wr => ∃ (r : List UInt8) (acc : List (List UInt8)), x = .string (ofL r) ∧ r.length + acc.length ≤ l.length ∧ Hid (splitC c l = acc ++ splitC c r) ∧ Hid (Kd.string.R 9 wr w.heap.size (fun _ => True) v (acc.map ofL)) ∧ Hid (Below w.heap.size w wr)) (fun x _ _ => strLen x)
  case atStart => exact ⟨l, [], rfl, by simp, Lib.hid rfl, Lib.hid (Kd.R_nil _ _ _ _ _), Lib.hid (Below.refl _ _)⟩
  case round =>
    obtain ⟨r, acc, rfl, hlen, hsp, hR, hbel⟩ := hrel
    have hrz : (ofL r).size = r.length := ofL_size r
    have hszr := hbel.out.size
    by_cases hc : c ∈ r
    · obtain ⟨i, hi⟩ : ∃ i, r.idxOf c = i := ⟨_, rfl⟩
      have hix : ixInt c r = (i : Int) := by rw [ixInt, if_pos hc, hi]
      have hilt : i < r.length := by rw [← hi]; exact (idx_split hc).2.2
      have HS := Lib.hid (splitC_ix hc)
      rw [hi] at HS
      clear hc hi
      go_wp2_with fail
      refine (HI.out r wr (by omega)).mono ?_
      rintro e w1 ⟨rfl, rfl⟩
      rw [hix]
      have hex := ofL_extract r 0 i
      rw [List.drop_zero, Nat.sub_zero] at hex
      have hex2 := ofL_extract r (i + 1) r.length
      go_wp2_with (at_builtin; refine kapp (w0 := w) Kd.string w.heap.size rfl _ _ 34 9 (.string ⟨#[]⟩) 16 rfl Tryd.underlying34 (by kernel_rfl) rfl (by decide) (by decide) _ (acc.map ofL) (ofL (r.take i)) [.string (ofL (r.take i))] (fun _ => True) (fun _ => False) _ rfl rfl ?hg rfl (fun _ h => h.elim) (fun _ _ => trivial) (Kd.R_alloc hR.out _) (hbel.out.alloc hszr _) (by simp; omega) ?hl ?_)
      case hg =>
        intro j u hj
        rw [cell_of_heap (heap_new w1 _)]
        simpa using hj
      case hl => simp; omega
      intro v1 w4 hR4 hB4 hg4 hat4
      have HR4 := Lib.hid hR4
      have HB4 := Lib.hid hB4
      clear hg4 hat4 hR4 hB4
      go_wp2
      have hdr : List.take (r.length - (i + 1)) (List.drop (i + 1) r) = r.drop (i + 1) := List.take_of_length_le (by simp)
      rw [hdr]
      refine ⟨⟨r.drop (i + 1), acc ++ [r.take i], rfl, by simp; omega, Lib.hid ?_, Lib.hid ?_, HB4⟩, by simp only [strLen, ofL_size, List.length_drop]; omega⟩
      · rw [hsp.out, HS.out]; simp
      · simpa using HR4.out
    · have HS := Lib.hid (splitC_no hc)
      have hix : ixInt c r = -1 := by rw [ixInt, if_neg hc]
      clear hc
      go_wp2_with fail
      refine (HI.out r wr (by omega)).mono ?_
      rintro e w1 ⟨rfl, rfl⟩
      rw [hix]
      go_wp2_with (at_builtin; refine kapp (w0 := w) Kd.string w.heap.size rfl _ _ 34 9 (.string ⟨#[]⟩) 16 rfl Tryd.underlying34 (by kernel_rfl) rfl (by decide) (by decide) _ (acc.map ofL) (ofL r) [.string (ofL r)] (fun _ => True) (fun _ => False) _ rfl rfl ?hg rfl (fun _ h => h.elim) (fun _ _ => trivial) (Kd.R_alloc hR.out _) (hbel.out.alloc hszr _) (by simp; omega) ?hl ?_)
      case hg =>
        intro j u hj
        rw [cell_of_heap (heap_new w1 _)]
        simpa using hj
      case hl => simp; omega
      intro v1 w4 hR4 hB4 hg4 hat4
      have HR4 := Lib.hid hR4
      have HB4 := Lib.hid hB4
      clear hg4 hat4 hR4 hB4
      go_wp2
      go_ret
      refine ⟨_, rfl, ?_, HB4.out⟩
      have := HR4.out
      rw [hsp.out, HS.out, List.map_append]
      simpa using this
end Go.Proofs.YtjifoimkjgepcaaDoor.Tx
