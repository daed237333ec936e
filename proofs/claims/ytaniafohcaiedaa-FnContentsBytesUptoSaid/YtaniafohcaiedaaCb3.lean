/-
  The walks of laws.columns and laws.FnContentsBytes.
-/
import Derived.Test.YtaniafohcaiedaaKe
import Derived.Test.YtaniafohcaiedaaFits
import Derived.Test.YtaniafohcaiedaaOpenB
set_option linter.unusedVariables false
set_option linter.unusedSimpArgs false
namespace Go.Proofs.Ytaniafohcaiedaa.Tx
open Go.RowKit Go.Proofs.Ytaniafohcaiedaa.K Go.Proofs.YtaniafohcaiedaaW.PrintWords Go.Proofs.Ytaniafohcaiedaa.Z

def BoolB (p : Prop) (w : World) (e : Ending) (w' : World) : Prop := ∃ b, e = .returned (.bool b) ∧ (b = true → p) ∧ Below w.heap.size w w'
theorem ne_take {xs : List (List ByteArray)} {k : Nat} (hk : k < xs.length) (h : ∀ r ∈ xs.take k, r ≠ []) (h1 : xs[k] ≠ []) : ∀ r ∈ xs.take (k + 1), r ≠ [] := by
  intro r hr
  rw [List.take_succ_eq_append_getElem hk] at hr
  rcases List.mem_append.1 hr with hr | hr
  · exact h r hr
  · rw [List.mem_singleton.1 hr]; exact h1

set_option maxHeartbeats 2000000 in
set_option maxRecDepth 5000 in
theorem columns_any (A : Option Addr) (c : Nat) (xs : List (List ByteArray)) (w : World) (hC : (Kd.slice 9 Kd.string).C w A xs.length xs) (hbt : ∀ r ∈ xs, bulkT r ≤ 4194304) :
    Calls Try.prog 23 #[.slice A xs.length c] w (BoolB ((∀ r ∈ xs, r ≠ []) ∧ 2 ≤ xs.length) w) := by
  have hm := hC.2.1
  have HC := Lib.hid hC
  have HBT := Lib.hid hbt
  clear hC hbt
  go_enter Try.func23, Try.ntmps23
  go_wp2
  go_loopw [8] (fun i wr => ∃ k : Nat, k ≤ xs.length ∧ i = .int .i64 k ∧ Hid (∀ r ∈ xs.take k, r ≠ []) ∧ wr = w) (fun i _ => xs.length - (intOf i).toNat)
  case atStart => exact ⟨0, Nat.zero_le _, rfl, Lib.hid (by simp), rfl⟩
  case round =>
    obtain ⟨k, hk, rfl, hall, rfl⟩ := hrel
    by_cases hlt : k < xs.length
    · obtain ⟨ad, A', c', rfl, hs, _, hC'⟩ := rows_at HC.out k hlt
      have HC' := Lib.hid hC'
      have hmem : xs[k] ∈ xs := List.getElem_mem hlt
      have HB1 := Lib.hid (HBT.out _ hmem)
      have HNT := Lib.hid (fun h1 => ne_take hlt hall.out h1)
      have hrm := hC'.2.1
      clear hC' hmem
      generalize hrr : xs[k] = r at *
      go_wp2
      go_loopw [16] (fun j wq => ∃ m : Nat, m ≤ r.length ∧ j = .int .i64 m ∧ wq = wr) (fun j _ => r.length - (intOf j).toNat)
      case atStart => exact ⟨0, Nat.zero_le _, rfl, rfl⟩
      case round =>
        obtain ⟨m, hm1, rfl, rfl⟩ := hrel
        by_cases hlt2 : m < r.length
        · obtain ⟨bd, rfl, hs2⟩ := strs_at HC'.out m hlt2
          have hsz : r[m].size ≤ 4611686018427387904 := by
            have := mem_bulk (List.getElem_mem hlt2)
            have := HB1.out
            omega
          go_wp2_with fail
          refine (within_any r[m] 10 _ hsz).mono ?_
          rintro e w2 ⟨b, rfl, rfl⟩
          cases b
          · go_wp2_with fail
            refine (within_any r[m] 7 _ hsz).mono ?_
            rintro e w2 ⟨b, rfl, rfl⟩
            cases b
            · go_wp2
              exact ⟨⟨m + 1, by omega, by go_num, trivial⟩, by simp [intOf]; omega⟩
            · go_wp2
              go_ret
              exact ⟨false, rfl, by simp, Below.refl _ _⟩
          · go_wp2
            go_ret
            exact ⟨false, rfl, by simp, Below.refl _ _⟩
        · by_cases hr0 : r.length = 0
          · go_wp2
            go_ret
            exact ⟨false, rfl, by simp, Below.refl _ _⟩
          · have HNE := Lib.hid (HNT.out (fun e => hr0 (by rw [e]; rfl)))
            go_wp2
            exact ⟨⟨k + 1, by omega, by go_num, HNE, trivial⟩, by simp [intOf]; omega⟩
    · obtain rfl : k = xs.length := by omega
      have h := hall.out
      rw [List.take_length] at h
      have HA := Lib.hid h
      clear h hall
      by_cases h2 : 2 ≤ xs.length
      · by_cases h40 : xs.length ≤ 40
        · go_wp2_with fail
          refine (few_any A c xs wr HC.out).mono ?_
          rintro e w2 ⟨b, rfl, _, hl⟩
          have HL := Lib.hid hl
          clear hl
          go_wp2
          go_ret
          exact ⟨b, rfl, fun _ => ⟨HA.out, h2⟩, HL.out⟩
        · go_wp2
          go_ret
          exact ⟨false, rfl, by simp, Below.refl _ _⟩
      · go_wp2
        go_ret
        exact ⟨false, rfl, by simp, Below.refl _ _⟩

theorem sn_bytes (s : ByteArray) : strOfNums (bytesOf s) = s := by
  apply ba_ext
  apply Array.ext'
  simp only [strOfNums, bytesOf, List.map_map, List.toList_toArray]
  conv => rhs; rw [← List.map_id s.data.toList]
  exact List.map_congr_left fun b _ => by simp
theorem rj_bulk (xs : List (List ByteArray)) : bulkT (rj xs) + 1 ≤ bulkL (bulkL bulkS) xs := by
  induction xs with
  | nil => simp [rj, bulkT, bulkL]
  | cons r xs ih =>
    have h1 := pj_size 7 r r.length
    have h2 : bulkL bulkS r = bulkT r + 1 := rfl
    have h3 : bulkT (rj (r :: xs)) = (pj 7 r r.length).size + 1 + bulkT (rj xs) := by simp [rj, bulkT]
    have h4 : bulkL (bulkL bulkS) (r :: xs) = bulkL bulkS r + bulkL (bulkL bulkS) xs := by simp [bulkL]; omega
    omega
theorem row_bulk {xs : List (List ByteArray)} {r : List ByteArray} (h : r ∈ xs) : bulkT r + 1 ≤ bulkL (bulkL bulkS) xs := by
  induction xs with
  | nil => cases h
  | cons x xs ih =>
    have h4 : bulkL (bulkL bulkS) (x :: xs) = bulkL bulkS x + bulkL (bulkL bulkS) xs := by simp [bulkL]; omega
    have h2 : bulkL bulkS x = bulkT x + 1 := rfl
    rcases List.mem_cons.1 h with rfl | h
    · omega
    · have := ih h; omega

set_option maxHeartbeats 2000000 in
set_option maxRecDepth 5000 in
theorem cb_walk (A : Option Addr) (c : Nat) (xs : List (List ByteArray)) (w : World) (hC : (Kd.slice 9 Kd.string).C w A xs.length xs) (hbk : bulkL (bulkL bulkS) xs ≤ 1048576) :
    Calls Try.prog 6 #[.slice A xs.length c] w fun e w' => e = .returned (.bool true) ∧ Below w.heap.size w w' := by
  have hm := hC.2.1
  have HC := Lib.hid hC
  have HBT := Lib.hid (show ∀ r ∈ xs, bulkT r ≤ 4194304 from fun r hr => by have := row_bulk hr; omega)
  have hrj : bulkT (rj xs) ≤ 4194304 := by have := rj_bulk xs; omega
  have HR := Lib.hid (show ∀ k (h : k < xs.length), (rj xs)[k]'(by rw [rj_length]; exact h) = pj 7 xs[k] xs[k].length from fun k h => by simp [rj])
  clear hC hbk
  go_enter Try.func6, Try.ntmps6
  go_wp2_with fail
  refine (zzFits6_any A c xs w HC.out).mono ?_
  rintro e w1 ⟨b1, rfl, _, hl1⟩
  have HL1 := Lib.hid hl1
  clear hl1
  cases b1
  · go_wp2
    go_ret
    exact ⟨rfl, HL1.out⟩
  go_wp2_with fail
  refine (columns_any A c xs w1 (Kd.C_below HC.out HL1.out) HBT.out).mono ?_
  rintro e w2 ⟨b2, rfl, hb2, hl2⟩
  have HB2 := Lib.hid hb2
  have HL2 := Lib.hid (HL1.out.trans (hl2.mono HL1.out.size))
  clear hb2 hl2
  cases b2
  · go_wp2_with fail
    refine (keeps_any w2).mono ?_
    rintro e w3 ⟨rfl, hl3⟩
    have HL3 := Lib.hid (HL2.out.trans (hl3.mono HL2.out.size))
    clear hl3
    go_wp2
    go_ret
    exact ⟨rfl, HL3.out⟩
  obtain ⟨hne, h2⟩ := HB2.out rfl
  have HNE := Lib.hid hne
  clear HB2 hne
  go_wp2
  go_loopw [16, 3] (fun i s wr => ∃ k : Nat, k ≤ xs.length ∧ i = .int .i64 k ∧ s = .string (pj 10 (rj xs) k) ∧ wr = w2) (fun i _ _ => xs.length - (intOf i).toNat)
  case atStart => exact ⟨0, Nat.zero_le _, rfl, rfl, rfl⟩
  case round =>
    obtain ⟨k, hk, rfl, rfl, rfl⟩ := hrel
    by_cases hlt : k < xs.length
    · obtain ⟨ad, A', c', rfl, hs, hl', hC'⟩ := rows_at (Kd.C_below HC.out HL2.out) k hlt
      have hrow := HR.out k hlt
      have hmem : xs[k] ∈ xs := List.getElem_mem hlt
      have hbr := HBT.out _ hmem
      have hps := pj_size 10 (rj xs) k
      have hps7 := pj_size 7 xs[k] xs[k].length
      have hlr : k < (rj xs).length := by rw [rj_length]; exact hlt
      have hap : (pj 10 (rj xs) k ++ one 10).size = (pj 10 (rj xs) k).size + 1 := by rw [ByteArray.size_append]; rfl
      by_cases hk0 : k = 0
      · have HE := Lib.hid (pj_first 10 (rj xs) k hlr hk0)
        rw [hrow] at HE
        have hng : ¬ (0 : Int) < (k : Int) := by omega
        clear hk0
        go_wp2_with fail
        refine (joined_any A' c' xs[k] 7 _ hC' (by omega)).mono ?_
        rintro e w3 ⟨rfl, rfl⟩
        go_wp2
        rw [HE.out]
        exact ⟨⟨k + 1, by omega, by go_num, rfl, trivial⟩, by simp [intOf]; omega⟩
      · have HE := Lib.hid (pj_next 10 (rj xs) k hlr hk0)
        rw [hrow] at HE
        have hng : (0 : Int) < (k : Int) := by omega
        clear hk0
        go_wp2_with fail
        refine (joined_any A' c' xs[k] 7 _ hC' (by omega)).mono ?_
        rintro e w3 ⟨rfl, rfl⟩
        go_wp2
        rw [HE.out]
        exact ⟨⟨k + 1, by omega, by go_num, rfl, trivial⟩, by simp [intOf]; omega⟩
    · obtain rfl : k = xs.length := by omega
      go_wp2_with fail
      refine (cbytes_any A c xs _ (Kd.C_below HC.out HL2.out) hrj HNE.out HBT.out h2).mono ?_
      rintro e w3 ⟨v, rfl, ho3, hl3⟩
      have hcv := own_string (P := Try.prog) Try.underlying45 Try.underlying5 Try.underlying9 ho3
      have HL3 := Lib.hid (HL2.out.trans (hl3.mono HL2.out.size))
      clear ho3 hl3
      rw [sn_bytes] at hcv
      have hq : ((pj 10 (rj xs) xs.length).toList == (pj 10 (rj xs) xs.length).toList) = true := by simp
      go_wp2_with fail
      refine (keeps_any w3).mono ?_
      rintro e w4 ⟨rfl, hl4⟩
      have HL4 := Lib.hid (HL3.out.trans (hl4.mono HL3.out.size))
      clear hl4
      go_wp2
      go_ret
      exact ⟨rfl, HL4.out⟩
end Go.Proofs.Ytaniafohcaiedaa.Tx
