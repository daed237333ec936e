/-
  The walks of laws.plainRecords and laws.line.
-/
import Derived.Test.YtaniafohcaiedaaUq
set_option linter.unusedVariables false
set_option linter.unusedSimpArgs false
namespace Go.Proofs.Ytaniafohcaiedaa.Tx
open Go.RowKit Go.Proofs.Ytaniafohcaiedaa.K Go.Proofs.YtaniafohcaiedaaW.PrintWords

theorem le30 {n : Nat} (h : (n : Int) ≤ 30) : n ≤ 30 := by omega
theorem big_ok {n : Nat} (h : n ≤ 20 * 2147483648) : n ≤ 4611686018427387904 := by omega
set_option maxHeartbeats 2000000 in
set_option maxRecDepth 5000 in
theorem plainRecords_any (A : Option Addr) (c : Nat) (xs : List Rec) (w : World) (hC : kRec.C w A xs.length xs) (hf : ∀ u ∈ xs, fitR u) :
    Calls Try.prog 17 #[.slice A xs.length c] w (BoolIf (xs.length ≤ 30 ∧ ∀ u ∈ xs, okRec u) w) := by
  have hm := hC.2.1
  have HC := Lib.hid hC
  have HF := Lib.hid hf
  clear hC hf
  go_enter Try.func17, Try.ntmps17
  go_wp2
  go_loopw [8] (fun i wr => ∃ k : Nat, k ≤ xs.length ∧ i = .int .i64 k ∧ Hid (∀ x ∈ xs.take k, okRec x) ∧ Below w.heap.size w wr) (fun i _ => xs.length - (intOf i).toNat)
  case atStart => exact ⟨0, Nat.zero_le _, rfl, Lib.hid (by simp), Below.refl _ _⟩
  case round =>
    obtain ⟨k, hk, rfl, hall, hbel⟩ := hrel
    by_cases hlt : k < xs.length
    · obtain ⟨ad, A1, c1, A2, c2, rfl, s0, s1, s2, s3, hC1, _, hC2, _⟩ := recs_at (Kd.C_below HC.out hbel) k hlt
      have HC1 := Lib.hid hC1
      have HC2 := Lib.hid hC2
      have hsz := hbel.size
      obtain ⟨f1, f2, f3, f4⟩ := HF.out _ (List.getElem_mem hlt)
      have HX := Lib.hid (fun h => all_take hlt hall.out h)
      have hm1 := hC1.2.1
      have hm2 := hC2.2.1
      clear hC1 hC2
      generalize xs[k] = u at *
      obtain ⟨a, ys, zs, d⟩ := u
      simp only [] at f1 f2 f3 f4 s0 s1 s2 s3
      have HF3 := Lib.hid f3
      have HF4 := Lib.hid f4
      have HL := Lib.hid hbel
      clear f3 f4 hbel
      go_wp2_with fail
      refine (plainWord_any a _ (by omega)).mono ?_
      rintro e w1 ⟨b, rfl, hb, rfl⟩
      have HB := Lib.hid hb
      clear hb
      cases b
      · go_wp2
        go_ret
        exact ⟨false, by simp, by simp, HL.out.alloc hsz _⟩
      go_wp2_with fail
      refine (plainWord_any d _ (by omega)).mono ?_
      rintro e w1 ⟨b, rfl, hb, rfl⟩
      have HD := Lib.hid hb
      clear hb
      cases b
      · go_wp2
        go_ret
        exact ⟨false, by simp, by simp, HL.out.alloc hsz _⟩
      have hzl : zs.length ≤ 9223372036854775807 := hm2
      have hyl : ys.length ≤ 9223372036854775807 := hm1
      by_cases he : ys.length = zs.length
      · have hq : (((ys.length : Nat) : Int) != ((zs.length : Nat) : Int)) = false := by simp; omega
        by_cases h1 : ys.length < 1
        · go_wp2
          go_ret
          exact ⟨false, by simp, by simp, HL.out.alloc hsz _⟩
        by_cases h20 : 20 < ys.length
        · go_wp2
          go_ret
          exact ⟨false, by simp, by simp, HL.out.alloc hsz _⟩
        have HE := Lib.hid he
        have hyz : ys.length ≤ zs.length := by omega
        clear he
        obtain ⟨wo, rfl⟩ : ∃ wo : World, wo = wr := ⟨_, rfl⟩
        go_wp2
        go_loopw [46] (fun i wi => ∃ m : Nat, m ≤ ys.length ∧ i = .int .i64 m ∧ Hid (∀ x ∈ ys.take m, plainW x) ∧ Hid (∀ x ∈ zs.take m, plainW x) ∧ wi = wo.alloc (.cells #[.string a, .slice A1 ys.length c1, .slice A2 zs.length c2, .string d] 36)) (fun i _ => ys.length - (intOf i).toNat)
        case atStart => exact ⟨0, Nat.zero_le _, rfl, Lib.hid (by simp), Lib.hid (by simp), rfl⟩
        case round =>
          obtain ⟨m, hm', rfl, hp1, hp2, rfl⟩ := hrel
          by_cases hml : m < ys.length
          · have hml2 : m < zs.length := by omega
            obtain ⟨b1, rfl, t1⟩ := strs_at (Kd.C_alloc HC1.out (.cells #[.string a, .slice A1 ys.length c1, .slice A2 zs.length c2, .string d] 36)) m hml
            obtain ⟨b2, rfl, t2⟩ := strs_at (Kd.C_alloc HC2.out (.cells #[.string a, .slice (some b1) ys.length c1, .slice A2 zs.length c2, .string d] 36)) m hml2
            have z1 := HF3.out _ (List.getElem_mem hml)
            have z2 := HF4.out _ (List.getElem_mem hml2)
            have HP1 := Lib.hid (fun h => all_take hml hp1.out h)
            have HP2 := Lib.hid (fun h => all_take hml2 hp2.out h)
            generalize ys[m] = y at t1 z1 HP1
            generalize zs[m] = z at t2 z2 HP2
            go_wp2_with fail
            refine (plainWord_any y _ (by omega)).mono ?_
            rintro e w1 ⟨b, rfl, hb, rfl⟩
            have HB1 := Lib.hid hb
            clear hb
            cases b
            · go_wp2
              go_ret
              exact ⟨false, by simp, by simp, HL.out.alloc hsz _⟩
            go_wp2_with fail
            refine (plainWord_any z _ (by omega)).mono ?_
            rintro e w1 ⟨b, rfl, hb, rfl⟩
            have HB2 := Lib.hid hb
            clear hb
            cases b
            · go_wp2
              go_ret
              exact ⟨false, by simp, by simp, HL.out.alloc hsz _⟩
            go_wp2
            exact ⟨⟨m + 1, by omega, by go_num, Lib.hid (HP1.out (HB1.out trivial)), Lib.hid (HP2.out (HB2.out trivial)), trivial⟩, by simp [intOf]; omega⟩
          · obtain rfl : m = ys.length := by omega
            have HK := Lib.hid (HX.out ⟨HB.out trivial, HD.out trivial, HE.out, by show 1 ≤ ys.length; omega, by show ys.length ≤ 20; omega, by have := hp1.out; rw [List.take_length] at this; exact this, by have := hp2.out; rw [HE.out, List.take_length] at this; exact this⟩)
            go_wp2
            exact ⟨⟨k + 1, by omega, by go_num, HK, HL.out.alloc hsz _⟩, by simp [intOf]; omega⟩
      · have hq : (((ys.length : Nat) : Int) != ((zs.length : Nat) : Int)) = true := by simp; omega
        clear he
        go_wp2
        go_ret
        exact ⟨false, by simp, by simp, HL.out.alloc hsz _⟩
    · obtain rfl : k = xs.length := by omega
      have h := hall.out
      rw [List.take_length] at h
      have HA := Lib.hid h
      clear h hall
      go_wp2
      go_ret
      exact ⟨_, rfl, fun hb => ⟨le30 (by simpa using hb), HA.out⟩, hbel⟩

theorem rowL_ba (u : Rec) : u.1 ++ ⟨#[44]⟩ ++ pj 32 u.2.1 u.2.1.length ++ ⟨#[44]⟩ ++ pj 32 u.2.2.1 u.2.2.1.length ++ ⟨#[44]⟩ ++ u.2.2.2 ++ ⟨#[10]⟩ = ofL (rowL u ++ [10]) := by
  have e1 : u.1 = ofL (toL u.1) := (ofL_toL _).symm
  have e2 : u.2.2.2 = ofL (toL u.2.2.2) := (ofL_toL _).symm
  conv => lhs; rw [e1, e2]
  rw [pj, pj, List.take_length, List.take_length, show (⟨#[44]⟩ : ByteArray) = ofL [44] from rfl, show (⟨#[10]⟩ : ByteArray) = ofL [10] from rfl]
  simp only [ofL_append]
  congr 1
  simp [rowL]
theorem ret_str {a b : ByteArray} (h : a = b) : Ending.returned (.string a) = .returned (.string b) := by rw [h]
def LineRet (u : Rec) (w : World) (e : Ending) (w' : World) : Prop := e = .returned (.string (ofL (rowL u ++ [10]))) ∧ Below w.heap.size w w'

set_option maxHeartbeats 2000000 in
set_option maxRecDepth 5000 in
theorem line_any (u : Rec) (A1 A2 : Option Addr) (c1 c2 : Nat) (w : World) (h1 : Kd.string.C w A1 u.2.1.length u.2.1) (h2 : Kd.string.C w A2 u.2.2.1.length u.2.2.1) (hf : fitR u) (hok : okRec u) :
    Calls Try.prog 19 #[recV u A1 A2 c1 c2] w (LineRet u w) := by
  obtain ⟨a, xs, ys, d⟩ := u
  have HR := Lib.hid (rowL_ba (a, xs, ys, d))
  simp only [] at HR
  have j1 := jn_fit hf.2.2.1
  have j2 := jn_fit hf.2.2.2
  have f1 := hf.1
  have f2 := hf.2.1
  have hl1 : xs.length ≤ 20 := hok.2.2.2.2.1
  have hl2 : ys.length ≤ 20 := by have := hok.2.2.1; simp only [] at this; omega
  simp only [] at j1 j2 f1 f2 h1 h2
  have p1 : (pj 32 xs xs.length).size ≤ 20 * 2147483648 := by rw [pj, ofL_size, List.take_length]; exact Nat.le_trans j1 (Nat.mul_le_mul_right _ hl1)
  have p2 : (pj 32 ys ys.length).size ≤ 20 * 2147483648 := by rw [pj, ofL_size, List.take_length]; exact Nat.le_trans j2 (Nat.mul_le_mul_right _ hl2)
  have b1 : bulkT xs ≤ 20 * 2147483648 := by
    have := hf.2.2.1
    simp only [] at this
    refine Nat.le_trans (bulk_fit this) (Nat.mul_le_mul_right _ hl1)
  have b2 : bulkT ys ≤ 20 * 2147483648 := by
    have := hf.2.2.2
    simp only [] at this
    refine Nat.le_trans (bulk_fit this) (Nat.mul_le_mul_right _ hl2)
  have HJ1 := Lib.hid (fun W (hC : Kd.string.C W A1 xs.length xs) => joined_any A1 c1 xs 32 W hC (big_ok b1))
  have HJ2 := Lib.hid (fun W (hC : Kd.string.C W A2 ys.length ys) => joined_any A2 c2 ys 32 W hC (big_ok b2))
  rw [show one 32 = ⟨#[32]⟩ from rfl] at HJ1 HJ2
  have H1 := Lib.hid h1
  have H2 := Lib.hid h2
  clear h1 h2 hf hok j1 j2 b1 b2
  unfold recV
  show Calls _ _ #[.agg #[.string a, .slice A1 xs.length c1, .slice A2 ys.length c2, .string d]] _ _
  generalize pj 32 xs xs.length = s1 at p1 HR HJ1
  generalize pj 32 ys ys.length = s2 at p2 HR HJ2
  go_enter Try.func19, Try.ntmps19
  go_wp2_with fail
  have z1 : (a ++ (⟨#[44]⟩ : ByteArray)).size = a.size + 1 := ByteArray.size_append
  have z2 : (a ++ (⟨#[44]⟩ : ByteArray) ++ s1).size = a.size + 1 + s1.size := by rw [ByteArray.size_append, z1]
  have z3 : (a ++ (⟨#[44]⟩ : ByteArray) ++ s1 ++ (⟨#[44]⟩ : ByteArray)).size = a.size + 1 + s1.size + 1 := by rw [ByteArray.size_append, z2]; rfl
  have z4 : (a ++ (⟨#[44]⟩ : ByteArray) ++ s1 ++ (⟨#[44]⟩ : ByteArray) ++ s2).size = a.size + 1 + s1.size + 1 + s2.size := by rw [ByteArray.size_append, z3]
  have z5 : (a ++ (⟨#[44]⟩ : ByteArray) ++ s1 ++ (⟨#[44]⟩ : ByteArray) ++ s2 ++ (⟨#[44]⟩ : ByteArray)).size = a.size + 1 + s1.size + 1 + s2.size + 1 := by rw [ByteArray.size_append, z4]; rfl
  have z6 : (a ++ (⟨#[44]⟩ : ByteArray) ++ s1 ++ (⟨#[44]⟩ : ByteArray) ++ s2 ++ (⟨#[44]⟩ : ByteArray) ++ d).size = a.size + 1 + s1.size + 1 + s2.size + 1 + d.size := by rw [ByteArray.size_append, z5]
  go_quiet ((first | (go_at_call 25; with_reducible exact Calls.quiet_of_same (HJ1.out _ (Kd.C_drewN (Kd.C_alloc H1.out _) _))) | (go_at_call 25; with_reducible exact Calls.quiet_of_same (HJ2.out _ (Kd.C_drewN (Kd.C_alloc H2.out _) _)))))
  go_wp2
  go_ret
  exact ⟨ret_str HR.out, pw_below_drewN ((Below.refl _ _).alloc (Nat.le_refl _) _) _⟩
end Go.Proofs.Ytaniafohcaiedaa.Tx
