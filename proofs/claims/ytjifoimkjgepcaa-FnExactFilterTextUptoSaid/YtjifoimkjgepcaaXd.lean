/-
  The walk of spec.kMixed: it tells some bool.
-/
import Derived.Test.YtjifoimkjgepcaaK
import Derived.Test.YtjifoimkjgepcaaRows
import Derived.Deep.QuietTactic
import Derived.BigQuiet
import Derived.Outline
set_option linter.unusedVariables false
set_option linter.unusedSimpArgs false
namespace Go.Proofs.Ytjifoimkjgepcaa.Flt
open Go.RowKit Go.Proofs.Ytjifoimkjgepcaa.K Go.Proofs.YtjifoimkjgepcaaW.PrintWords

/-- Some bool is returned. -/
def SomeB (w : World) (e : Ending) (w' : World) : Prop := (∃ b : Bool, e = .returned (.bool b)) ∧ Below w.heap.size w w'
set_option maxHeartbeats 2000000 in
set_option maxRecDepth 100000 in
theorem kMixed_any (A : Option Addr) (c : Nat) (fs : List (List ByteArray)) (w : World) (hC : (Kd.slice 9 Kd.string).C w A fs.length fs) :
    Calls Try.prog 40 #[.slice A fs.length c] w (SomeB w) := by
  have hm := hC.2.1
  have HC := Lib.hid hC
  clear hC
  go_enter Try.func40, Try.ntmps40
  go_wp2_with fail
  go_loopw [3] (fun x wr => ∃ i : Nat, i ≤ fs.length ∧ x = .int .i64 i ∧ Hid (Below w.heap.size w wr)) (fun x _ => fs.length - (intOf x).toNat)
  case atStart => exact ⟨0, Nat.zero_le _, rfl, Lib.hid (Below.refl _ _)⟩
  case round =>
    obtain ⟨i, hi, rfl, HB⟩ := hrel
    by_cases hlt : i < fs.length
    · have hlt' : (i : Int) < (fs.length : Int) := by omega
      go_wp2_with fail
      obtain ⟨wo, hwo⟩ : ∃ wo : World, wo = wr := ⟨_, rfl⟩
      subst hwo
      go_loopw [4] (fun x wr => ∃ k : Nat, k ≤ i ∧ x = .int .i64 k ∧ Hid (Below w.heap.size w wr)) (fun x _ => i - (intOf x).toNat)
      case atStart => exact ⟨0, Nat.zero_le _, rfl, HB⟩
      case round =>
        obtain ⟨k, hk, rfl, HB2⟩ := hrel
        by_cases hki : k < i
        · have hki' : (k : Int) < (i : Int) := by omega
          have hkl : (k : Int) < (fs.length : Int) := by omega
          obtain ⟨ad, A1, c1, rfl, h1, hl1, hC1⟩ := rows_at HC.out i hlt
          obtain ⟨ad', A2, c2, he, h2, hl2, hC2⟩ := rows_at HC.out k (by omega)
          cases he
          obtain ⟨L1, hL1⟩ : ∃ L1, L1 = fs[i] := ⟨_, rfl⟩
          obtain ⟨L2, hL2⟩ : ∃ L2, L2 = fs[k] := ⟨_, rfl⟩
          rw [← hL1] at h1 hC1
          rw [← hL2] at h2 hC2
          have hm1 := hC1.2.1
          have HH1 := Lib.hid h1
          have HH2 := Lib.hid h2
          have HC1 := Lib.hid hC1
          have HC2 := Lib.hid hC2
          clear hL1 hL2 h1 h2 hC1 hC2 hl1 hl2
          have p0 : (0 : Int) ≤ i := by omega
          have p1 : (0 : Int) ≤ k := by omega
          go_wp2_with fail
          obtain ⟨wp, hwp⟩ : ∃ wp : World, wp = wr := ⟨_, rfl⟩
          subst hwp
          go_loopw [5] (fun x wr => ∃ n : Nat, n ≤ L1.length ∧ x = .int .i64 n ∧ Hid (Below w.heap.size w wr)) (fun x _ => L1.length - (intOf x).toNat)
          case atStart => exact ⟨0, Nat.zero_le _, rfl, HB2⟩
          case round =>
            obtain ⟨n, hn, rfl, HB3⟩ := hrel
            have g1 := (HB3.out.cell (World.block_lt_of_cell? w _ HH1.out)).trans HH1.out
            have g2 := (HB3.out.cell (World.block_lt_of_cell? w _ HH2.out)).trans HH2.out
            have p2 : (0 : Int) ≤ n := by omega
            by_cases q1 : n < L1.length
            · have q1' : (n : Int) < (L1.length : Int) := by omega
              by_cases q2 : n < L2.length
              · have q2' : (n : Int) < (L2.length : Int) := by omega
                obtain ⟨b1, rfl, s1⟩ := strs_at (Kd.C_below HC1.out HB3.out) n q1
                obtain ⟨b2, rfl, s2⟩ := strs_at (Kd.C_below HC2.out HB3.out) n q2
                obtain ⟨t1, ht1⟩ : ∃ t, t = L1[n] := ⟨_, rfl⟩
                obtain ⟨t2, ht2⟩ : ∃ t, t = L2[n] := ⟨_, rfl⟩
                rw [← ht1] at s1
                rw [← ht2] at s2
                clear ht1 ht2
                obtain ⟨E, hE⟩ : ∃ E : Bool, (t1.toList == t2.toList) = E := ⟨_, rfl⟩
                cases E
                · go_wp2_with fail
                  go_quiet (fail)
                  have HB4 : Hid (Below w.heap.size w (wr.drewN nq)) := Lib.hid (pw_below_drewN HB3.out nq)
                  have g1' : (wr.drewN nq).cell? (ad.add i) = _ := g1
                  have g2' : (wr.drewN nq).cell? (ad.add k) = _ := g2
                  have s1' : (wr.drewN nq).cell? (b1.add n) = _ := s1
                  have s2' : (wr.drewN nq).cell? (b2.add n) = _ := s2
                  generalize wr.drewN nq = wd at HB4 g1' g2' s1' s2' ⊢
                  clear g1 g2 s1 s2 hE HB3
                  obtain ⟨Z1, hZ1⟩ : ∃ Z : Bool, (t1.toList == [0]) = Z := ⟨_, rfl⟩
                  obtain ⟨Z2, hZ2⟩ : ∃ Z : Bool, (t2.toList == [0]) = Z := ⟨_, rfl⟩
                  cases Z1
                  · cases Z2
                    · go_wp2_with fail
                      exact ⟨⟨k + 1, by omega, by go_num, HB4⟩, by simp [intOf]; omega⟩
                    · go_wp2_with fail
                      go_ret
                      exact ⟨⟨true, rfl⟩, HB4.out⟩
                  · go_wp2_with fail
                    go_ret
                    exact ⟨⟨true, rfl⟩, HB4.out⟩
                · go_wp2_with fail
                  go_quiet (fail)
                  have HB4 : Hid (Below w.heap.size w (wr.drewN nq)) := Lib.hid (pw_below_drewN HB3.out nq)
                  generalize wr.drewN nq = wd at HB4 ⊢
                  clear g1 g2 s1 s2 hE HB3
                  go_wp2_with fail
                  exact ⟨⟨n + 1, by omega, by go_num, HB4⟩, by simp [intOf]; omega⟩
              · have q2' : ¬ ((n : Int) < (L2.length : Int)) := by omega
                go_wp2_with fail
                go_quiet (fail)
                have HB4 : Hid (Below w.heap.size w (wr.drewN nq)) := Lib.hid (pw_below_drewN HB3.out nq)
                have g1' : (wr.drewN nq).cell? (ad.add i) = _ := g1
                have g2' : (wr.drewN nq).cell? (ad.add k) = _ := g2
                generalize wr.drewN nq = wd at HB4 g1' g2' ⊢
                clear g1 g2 HB3
                go_wp2_with fail
                exact ⟨⟨k + 1, by omega, by go_num, HB4⟩, by simp [intOf]; omega⟩
            · have q1' : ¬ ((n : Int) < (L1.length : Int)) := by omega
              go_wp2_with fail
              go_quiet (fail)
              have HB4 : Hid (Below w.heap.size w (wr.drewN nq)) := Lib.hid (pw_below_drewN HB3.out nq)
              have g1' : (wr.drewN nq).cell? (ad.add i) = _ := g1
              have g2' : (wr.drewN nq).cell? (ad.add k) = _ := g2
              generalize wr.drewN nq = wd at HB4 g1' g2' ⊢
              clear g1 g2 HB3
              go_wp2_with fail
              exact ⟨⟨k + 1, by omega, by go_num, HB4⟩, by simp [intOf]; omega⟩
        · have hki' : ¬ ((k : Int) < (i : Int)) := by omega
          go_wp2_with fail
          exact ⟨⟨i + 1, by omega, by go_num, HB2⟩, by simp [intOf]; omega⟩
    · have hlt' : ¬ ((i : Int) < (fs.length : Int)) := by omega
      go_wp2_with fail
      go_ret
      exact ⟨⟨false, rfl⟩, HB.out⟩
end Go.Proofs.Ytjifoimkjgepcaa.Flt
