/-
  The walks of laws.sameRecords and laws.users.
-/
import Derived.Test.YtaniafohcaiedaaUt
import Derived.RegionTactic
import Derived.BigRegion
set_option linter.unusedVariables false
set_option linter.unusedSimpArgs false
namespace Go.Proofs.Ytaniafohcaiedaa.Tx
open Go.RowKit Go.Proofs.Ytaniafohcaiedaa.K Go.Proofs.YtaniafohcaiedaaW.PrintWords

set_option maxHeartbeats 2000000 in
set_option maxRecDepth 5000 in
theorem sameRecords_eq (A B : Option Addr) (c c' : Nat) (xs : List Rec) (w : World) (hC : kRec.C w A xs.length xs) (hD : kRec.C w B xs.length xs) :
    Calls Try.prog 22 #[.slice A xs.length c, .slice B xs.length c', .bool true] w fun e w' => e = .returned (.bool true) ∧ Below w.heap.size w w' := by
  have hm := hC.2.1
  have HC := Lib.hid hC
  have HD := Lib.hid hD
  clear hC hD
  go_enter Try.func22, Try.ntmps22
  go_wp2
  go_loopw [15] (fun i wr => ∃ k : Nat, k ≤ xs.length ∧ i = .int .i64 k ∧ Hid (Below w.heap.size w wr)) (fun i _ => xs.length - (intOf i).toNat)
  case atStart => exact ⟨0, Nat.zero_le _, rfl, Lib.hid (Below.refl _ _)⟩
  case round =>
    obtain ⟨k, hk, rfl, hbel⟩ := hrel
    by_cases hlt : k < xs.length
    · obtain ⟨ad, A1, a1, A2, a2, rfl, s0, s1, s2, s3, g1, _, g2, _⟩ := recs_at (Kd.C_below HC.out hbel.out) k hlt
      obtain ⟨bd, B1, b1, B2, b2, rfl, t0, t1, t2, t3, k1, _, k2, _⟩ := recs_at (Kd.C_below HD.out hbel.out) k hlt
      have HE := Lib.hid (fun W (h1 : Kd.string.C W A1 xs[k].2.1.length xs[k].2.1) (h2 : Kd.string.C W A2 xs[k].2.2.1.length xs[k].2.2.1) (h3 : Kd.string.C W B1 xs[k].2.1.length xs[k].2.1) (h4 : Kd.string.C W B2 xs[k].2.2.1.length xs[k].2.2.1) => sameRecord_eq xs[k] A1 A2 B1 B2 a1 a2 b1 b2 W h1 h2 h3 h4)
      have G1 := Lib.hid g1
      have G2 := Lib.hid g2
      have K1 := Lib.hid k1
      have K2 := Lib.hid k2
      clear g1 g2 k1 k2
      have p0 : (0 : Int) ≤ k := by omega
      have p1 : (k : Int) < (xs.length : Int) := by omega
      have hszr := hbel.out.size
      unfold recV at HE
      generalize xs[k] = u at *
      obtain ⟨a, ys, zs, d⟩ := u
      go_wp2
      go_region_with (go_at_call 37; refine (HE.out _ ?_ ?_ ?_ ?_).mono ?_; exact G1.out; exact G2.out; exact K1.out; exact K2.out; rintro e w2 ⟨rfl, hw2⟩; have HW2 := Lib.hid hw2; clear hw2)
      all_goals
        go_wp2
        exact ⟨⟨k + 1, by omega, by go_num, Lib.hid (hbel.out.trans ((show Below wr.heap.size wr w2 from (pw_below_drewN (Below.refl _ wr) 1).trans HW2.out).mono hszr))⟩, by simp [intOf]; omega⟩
    · go_wp2
      go_ret
      exact ⟨rfl, hbel.out⟩

abbrev R0 : Rec := (⟨#[97, 98]⟩, [⟨#[97]⟩, ⟨#[98]⟩], [⟨#[99]⟩, ⟨#[100]⟩], ⟨#[110]⟩)
abbrev T0 : List UInt8 := [97, 98, 44, 97, 32, 98, 44, 99, 32, 100, 44, 110, 10]
theorem T0_eq : T0 = textL [R0] ++ [] := rfl
theorem plain0 {s : ByteArray} (h : (toL s) ≠ [] ∧ (toL s).all (fun c => decide (32 < c.toNat) && decide (c.toNat ≠ 44) && decide (c.toNat ≠ 35)) = true) : plainW s := by
  refine ⟨fun e => h.1 (List.eq_nil_of_length_eq_zero (by rw [toL_size]; exact e)), fun c hc => ?_⟩
  have := List.all_eq_true.1 h.2 c hc
  simp at this
  exact ⟨this.1.1, this.1.2, this.2⟩
theorem ok0 : okRec R0 := by
  refine ⟨plain0 (by decide), plain0 (by decide), rfl, by decide, by decide, ?_, ?_⟩
  · intro x hx
    simp at hx
    rcases hx with rfl | rfl <;> exact plain0 (by decide)
  · intro x hx
    simp at hx
    rcases hx with rfl | rfl <;> exact plain0 (by decide)
theorem parse_nil : parse [] = some [] := by rw [parse, texts, rawL_nil]; rfl
theorem parse0 : parse T0 = some [R0] := by
  rw [T0_eq, parse_app [] [R0] (by intro u hu; simp at hu; subst hu; exact ok0), parse_nil]; rfl
theorem raw0 : (rawL T0).length ≤ 1099511627776 := by
  rw [T0_eq, rawL_count [R0] [] (by intro u hu; simp at hu; subst hu; exact ok0), rawL_nil]
  decide

set_option maxHeartbeats 2000000 in
set_option maxRecDepth 5000 in
theorem users_any (w : World) : Calls Try.prog 18 #[] w fun e w' => e = .returned (.bool true) ∧ Below w.heap.size w w' := by
  have H := Lib.hid (userRecords_any T0 w (by decide) raw0)
  unfold UsersRet at H
  rw [parse0] at H
  have HE := Lib.hid (fun A1 A2 B1 B2 c1 c2 d1 d2 W h1 h2 h3 h4 => sameRecord_eq R0 A1 A2 B1 B2 c1 c2 d1 d2 W h1 h2 h3 h4)
  unfold recV at HE
  go_enter Try.func18, Try.ntmps18
  go_wp2_with fail
  refine H.out.mono ?_
  rintro e w1 ⟨A, c, rfl, hc, hC, hb⟩
  obtain ⟨ad, A1, a1, A2, a2, rfl, s0, s1, s2, s3, g1, _, g2, _⟩ := recs_at hC 0 (by decide)
  have HB := Lib.hid hb
  have G1 := Lib.hid g1
  have G2 := Lib.hid g2
  have hsz := hb.size
  have hz : ad.add (0 * 4) = ad := by simp [Addr.add]
  rw [hz] at s0 s1 s2 s3
  replace s0 : w1.cell? ad = some (.string ⟨#[97, 98]⟩) := s0
  replace s1 : w1.cell? ⟨ad.block, ad.off + 1, none⟩ = some (.slice A1 2 a1) := s1
  replace s2 : w1.cell? ⟨ad.block, ad.off + 2, none⟩ = some (.slice A2 2 a2) := s2
  replace s3 : w1.cell? ⟨ad.block, ad.off + 3, none⟩ = some (.string ⟨#[110]⟩) := s3
  clear hz
  rw [show ([R0] : List Rec).length = 1 from rfl]
  clear hC hb g1 g2 H
  go_wp2_with fail
  have k1 : Kd.string.C ((w1.alloc (.cells #[.string ⟨#[97]⟩, .string ⟨#[98]⟩] 9)).alloc (.cells #[.string ⟨#[99]⟩, .string ⟨#[100]⟩] 9)) (some ⟨w1.heap.size, 0, none⟩) R0.2.1.length R0.2.1 :=
    C_of_block (cs := [.string ⟨#[97]⟩, .string ⟨#[98]⟩]) (heap_old (heap_new w1 _) _) (reps_strs _ R0.2.1) (by decide)
  have k2 : Kd.string.C ((w1.alloc (.cells #[.string ⟨#[97]⟩, .string ⟨#[98]⟩] 9)).alloc (.cells #[.string ⟨#[99]⟩, .string ⟨#[100]⟩] 9)) (some ⟨w1.heap.size + 1, 0, none⟩) R0.2.2.1.length R0.2.2.1 :=
    C_of_block (cs := [.string ⟨#[99]⟩, .string ⟨#[100]⟩]) (by have h := heap_new (w1.alloc (.cells #[.string ⟨#[97]⟩, .string ⟨#[98]⟩] 9)) (.cells #[.string ⟨#[99]⟩, .string ⟨#[100]⟩] 9); rw [size_alloc] at h; exact h) (reps_strs _ R0.2.2.1) (by decide)
  refine (HE.out A1 A2 _ _ a1 a2 2 2 _ (Kd.C_alloc (Kd.C_alloc G1.out _) _) (Kd.C_alloc (Kd.C_alloc G2.out _) _) k1 k2).mono ?_
  rintro e w2 ⟨rfl, hb2⟩
  have HB2 := Lib.hid (((HB.out.alloc hsz _).alloc (by simp; omega) _).trans (hb2.mono (by simp; omega)))
  clear hb2 k1 k2 s0 s1 s2 s3
  go_wp2
  go_ret
  exact ⟨by simp, HB2.out⟩
end Go.Proofs.Ytaniafohcaiedaa.Tx
