/-
  The walks of what FnUserRecordsParts looks at: zzFits14, zzFits15, plainWord, plainRecords, line.
-/
import Derived.Test.YtaniafohcaiedaaUm
import Derived.Test.YtaniafohcaiedaaFits
import Derived.Deep.QuietTactic
import Derived.BigQuiet
set_option linter.unusedVariables false
set_option linter.unusedSimpArgs false
namespace Go.Proofs.Ytaniafohcaiedaa.Tx
open Go.RowKit Go.Proofs.Ytaniafohcaiedaa.K Go.Proofs.YtaniafohcaiedaaW.PrintWords

/-- A record's place in a list of records. -/
theorem recs_at {w : World} {A : Option Addr} {n : Nat} {xs : List Rec} (h : kRec.C w A n xs) : ∀ j (hj : j < xs.length), ∃ ad A1 c1 A2 c2, A = some ad ∧
    w.cell? (ad.add (j * 4)) = some (.string xs[j].1) ∧ w.cell? ⟨(ad.add (j * 4)).block, (ad.add (j * 4)).off + 1, none⟩ = some (.slice A1 xs[j].2.1.length c1) ∧
    w.cell? ⟨(ad.add (j * 4)).block, (ad.add (j * 4)).off + 2, none⟩ = some (.slice A2 xs[j].2.2.1.length c2) ∧ w.cell? ⟨(ad.add (j * 4)).block, (ad.add (j * 4)).off + 3, none⟩ = some (.string xs[j].2.2.2) ∧
    Kd.string.C w A1 xs[j].2.1.length xs[j].2.1 ∧ xs[j].2.1.length ≤ c1 ∧ Kd.string.C w A2 xs[j].2.2.1.length xs[j].2.2.1 ∧ xs[j].2.2.1.length ≤ c2 := by
  intro j hj
  obtain ⟨ad, hA, hc⟩ := h.2.2 (by have := h.1; omega)
  obtain ⟨c, hl, hk, hcell⟩ := hc j xs[j] (List.getElem?_eq_getElem hj)
  obtain ⟨_, _, rfl, rfl, _, _, rfl, ⟨A1, c1, rfl, h1, hC1⟩, _, _, rfl, ⟨A2, c2, rfl, h2, hC2⟩, rfl⟩ := hk
  have e : kRec.sz = 4 := rfl
  rw [e] at hcell
  have h0 := hcell 0 _ rfl
  have h1' := hcell 1 _ rfl
  have h2' := hcell 2 _ rfl
  have h3' := hcell 3 _ rfl
  rw [Nat.add_zero] at h0
  rw [add_field _ _ _ (by decide)] at h1' h2' h3'
  exact ⟨ad, A1, c1, A2, c2, hA, h0, h1', h2', h3', hC1, h1, hC2, h2⟩
/-- A record as it is handed on. -/
abbrev recV (u : Rec) (A1 A2 : Option Addr) (c1 c2 : Nat) : Value := .agg #[.string u.1, .slice A1 u.2.1.length c1, .slice A2 u.2.2.1.length c2, .string u.2.2.2]

set_option maxHeartbeats 1000000 in
theorem zzFits15_any (u : Rec) (A1 A2 : Option Addr) (c1 c2 : Nat) (w : World) (h1 : Kd.string.C w A1 u.2.1.length u.2.1) (h2 : Kd.string.C w A2 u.2.2.1.length u.2.2.1) :
    Calls Try.prog 35 #[recV u A1 A2 c1 c2] w (BoolIf (fitR u) w) := by
  obtain ⟨a, xs, ys, d⟩ := u
  have H1 := Lib.hid h1
  have H2 := Lib.hid h2
  clear h1 h2
  unfold recV
  go_enter Try.func35, Try.ntmps35
  by_cases ha : 2147483647 < a.size
  · go_wp2
    go_ret
    exact ⟨false, rfl, by simp, (Below.refl _ _).alloc (Nat.le_refl _) _⟩
  go_wp2_with fail
  refine (zzFits3_any A1 c1 xs _ (Kd.C_alloc H1.out _)).mono ?_
  rintro e w1 ⟨b, rfl, hb, hw1⟩
  have HB := Lib.hid hb
  have HL := Lib.hid (((Below.refl _ w).alloc (Nat.le_refl _) _).trans (hw1.mono (by simp)))
  obtain ⟨hc, hf⟩ : (∀ o, w1.cell? ⟨w.heap.size, o, none⟩ = (w.alloc (.cells #[.string a, .slice A1 xs.length c1, .slice A2 ys.length c2, .string d] 36)).cell? ⟨w.heap.size, o, none⟩) ∧ True := ⟨fun o => hw1.cell (p := ⟨w.heap.size, o, none⟩) (by simp), trivial⟩
  have g2 := hc 2
  have g3 := hc 3
  rw [cell_of_heap (heap_new w _)] at g2 g3
  replace g2 : w1.cell? ⟨w.heap.size, 2, none⟩ = some (.slice A2 ys.length c2) := g2
  replace g3 : w1.cell? ⟨w.heap.size, 3, none⟩ = some (.string d) := g3
  clear hb hw1 hc hf
  cases b
  · go_wp2
    go_ret
    exact ⟨false, rfl, by simp, HL.out⟩
  go_wp2_with fail
  refine (zzFits3_any A2 c2 ys _ (Kd.C_below H2.out HL.out)).mono ?_
  rintro e w2 ⟨b, rfl, hb2, hw2⟩
  have HB2 := Lib.hid hb2
  have g3' : w2.cell? ⟨w.heap.size, 3, none⟩ = some (.string d) := (hw2.cell (World.block_lt_of_cell? _ _ g3)).trans g3
  have HL2 := Lib.hid (HL.out.trans (hw2.mono HL.out.size))
  clear hb2 hw2 g2 g3
  cases b
  · go_wp2
    go_ret
    exact ⟨false, rfl, by simp, HL2.out⟩
  by_cases hd : 2147483647 < d.size
  · go_wp2
    go_ret
    exact ⟨false, rfl, by simp, HL2.out⟩
  go_wp2
  go_ret
  exact ⟨true, rfl, fun _ => ⟨by show a.size ≤ _; omega, by show d.size ≤ _; omega, (HB.out trivial).2, (HB2.out trivial).2⟩, HL2.out⟩

set_option maxHeartbeats 1000000 in
theorem zzFits14_any (A : Option Addr) (c : Nat) (xs : List Rec) (w : World) (hC : kRec.C w A xs.length xs) :
    Calls Try.prog 16 #[.slice A xs.length c] w (BoolIf (xs.length ≤ 2147483647 ∧ ∀ u ∈ xs, fitR u) w) := by
  have hm := hC.2.1
  have HC := Lib.hid hC
  clear hC
  go_enter Try.func16, Try.ntmps16
  by_cases hbig : 2147483647 < xs.length
  · go_wp2
    go_ret
    exact ⟨false, rfl, by simp, Below.refl _ _⟩
  go_wp2
  go_loopw [10] (fun i wr => ∃ k : Nat, k ≤ xs.length ∧ i = .int .i64 k ∧ Hid (∀ x ∈ xs.take k, fitR x) ∧ Below w.heap.size w wr) (fun i _ => xs.length - (intOf i).toNat)
  case atStart => exact ⟨0, Nat.zero_le _, rfl, Lib.hid (by simp), Below.refl _ _⟩
  case round =>
    obtain ⟨k, hk, rfl, hall, hbel⟩ := hrel
    by_cases hlt : k < xs.length
    · obtain ⟨ad, A1, c1, A2, c2, rfl, s0, s1, s2, s3, hC1, _, hC2, _⟩ := recs_at (Kd.C_below HC.out hbel) k hlt
      have HC1 := Lib.hid hC1
      have HC2 := Lib.hid hC2
      have hsz := hbel.size
      clear hC1 hC2
      have HX := Lib.hid (fun h => all_take hlt hall.out h)
      generalize xs[k] = u at *
      obtain ⟨a, ys, zs, d⟩ := u
      go_wp2_with fail
      refine (zzFits15_any (a, ys, zs, d) A1 A2 c1 c2 _ (Kd.C_alloc HC1.out _) (Kd.C_alloc HC2.out _)).mono ?_
      rintro e w1 ⟨b, rfl, hb, hw1⟩
      have HB := Lib.hid hb
      have HL := Lib.hid ((hbel.alloc hsz _).trans (hw1.mono (by simp; omega)))
      clear s0 s1 s2 s3 hb hw1 hbel
      cases b
      · go_wp2
        go_ret
        exact ⟨false, rfl, by simp, HL.out⟩
      · go_wp2
        refine ⟨⟨k + 1, by omega, by go_num, Lib.hid (HX.out (HB.out trivial)), HL.out⟩, by simp [intOf]; omega⟩
    · go_wp2
      go_ret
      obtain rfl : k = xs.length := by omega
      have := hall.out
      rw [List.take_length] at this
      exact ⟨true, rfl, fun _ => ⟨by omega, this⟩, hbel⟩

def BoolP (p : Prop) (w : World) (e : Ending) (w' : World) : Prop := ∃ b, e = .returned (.bool b) ∧ (b = true → p) ∧ w' = w
theorem toL_get (s : ByteArray) (k : Nat) (h : k < s.size) : (toL s)[k]'(by rw [toL_size]; exact h) = s[k] := by simp [toL, ByteArray.getElem_eq_getElem_data]
set_option maxHeartbeats 1000000 in
set_option maxRecDepth 5000 in
theorem plainWord_any (s : ByteArray) (w : World) (hs : s.size ≤ 4611686018427387904) :
    Calls Try.prog 36 #[.string s] w (BoolP (plainW s) w) := by
  go_enter Try.func36, Try.ntmps36
  go_wp2
  go_loopw [6] (fun i wr => ∃ k : Nat, k ≤ s.size ∧ i = .int .i64 k ∧ Hid (∀ c ∈ (toL s).take k, 32 < c.toNat ∧ c.toNat ≠ 44 ∧ c.toNat ≠ 35) ∧ wr = w) (fun i _ => s.size - (intOf i).toNat)
  case atStart => exact ⟨0, Nat.zero_le _, rfl, Lib.hid (by simp), rfl⟩
  case round =>
    obtain ⟨k, hk, rfl, hall, rfl⟩ := hrel
    by_cases hlt : k < s.size
    · have HX := Lib.hid (fun h => all_take (p := fun c : UInt8 => 32 < c.toNat ∧ c.toNat ≠ 44 ∧ c.toNat ≠ 35) (k := k) (xs := toL s) (by rw [toL_size]; exact hlt) hall.out h)
      rw [toL_get s k hlt] at HX
      by_cases h1 : ((s[k].toNat : Int)) ≤ 32
      · go_wp2
        go_ret
        exact ⟨false, rfl, by simp, rfl⟩
      by_cases h2 : ((s[k].toNat : Int)) = 44
      · have ht : (((s[k].toNat : Int)) == 44) = true := by simpa using h2
        clear h2
        go_wp2
        go_ret
        exact ⟨false, by simp, by simp, rfl⟩
      have ht2 : (((s[k].toNat : Int)) == 44) = false := by simpa using h2
      by_cases h3 : ((s[k].toNat : Int)) = 35
      · have ht : (((s[k].toNat : Int)) == 35) = true := by simpa using h3
        clear h2 h3
        go_wp2
        go_ret
        exact ⟨false, by simp, by simp, rfl⟩
      have ht3 : (((s[k].toNat : Int)) == 35) = false := by simpa using h3
      have HY := Lib.hid (HX.out ⟨by omega, by omega, by omega⟩)
      clear HX
      by_cases h4 : ((s[k].toNat : Int)) = 34
      · have ht : (((s[k].toNat : Int)) == 34) = true := by simpa using h4
        clear h2 h3 h4
        go_wp2
        go_ret
        exact ⟨false, by simp, by simp, rfl⟩
      have ht4 : (((s[k].toNat : Int)) == 34) = false := by simpa using h4
      clear h2 h3 h4
      by_cases h5 : (127 : Int) ≤ ((s[k].toNat : Int))
      · go_wp2
        go_ret
        exact ⟨false, by simp, by simp, rfl⟩
      go_wp2
      exact ⟨⟨k + 1, by omega, by go_num, HY, trivial⟩, by simp [intOf]; omega⟩
    · obtain rfl : k = s.size := by omega
      have h := hall.out
      rw [← toL_size, List.take_length] at h
      have HA := Lib.hid h
      clear h hall
      go_wp2
      go_ret
      refine ⟨_, rfl, fun hb => ⟨fun e0 => ?_, HA.out⟩, rfl⟩
      have h0 : s.toList = [] := by
        rw [ByteArray.toList_eq]
        exact List.eq_nil_of_length_eq_zero (by rw [Array.length_toList]; exact e0)
      simp [h0] at hb
end Go.Proofs.Ytaniafohcaiedaa.Tx
