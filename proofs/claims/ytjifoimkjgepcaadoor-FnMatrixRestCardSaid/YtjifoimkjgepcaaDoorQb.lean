/-
  The text of a matrix; the walk of impl.fair.
-/
import Derived.Test.YtjifoimkjgepcaaDoorQa
import Derived.Test.YtjifoimkjgepcaaDoorShelf
import Derived.Lib.AtoiErrMem
set_option linter.unusedVariables false
set_option linter.unusedSimpArgs false
namespace Go.Proofs.YtjifoimkjgepcaaDoor.Tx
open Go.RowKit Go.Proofs.YtjifoimkjgepcaaDoor.K Go.Proofs.YtjifoimkjgepcaaDoorW.PrintWords

theorem atoi_call (l : List UInt8) (v : Int) (hl : l.length ≤ 100) (h : Lib.atoiAll l = .ok v) (w : World) :
    Calls Tryd.prog 37 #[.string (ofL l)] w fun e w' => e = .returned (.tuple #[.int .i64 v, .nilIface]) ∧ Below w.heap.size w w' := by
  refine (Tryd.strconv_Atoi_ok (ofL l) (by rw [ofL_size]; omega) v (by rw [show (ofL l).data.toList = l from toL_ofL l]; exact h) w).mono ?_
  rintro e w' ⟨rfl, rfl | ⟨t, rfl⟩⟩
  · exact ⟨rfl, Below.refl _ _⟩
  · exact ⟨rfl, Lib.bytesWorld_below _ _ _⟩
theorem parse_call (l : List UInt8) (v : Int) (hl : l.length ≤ 100) (h : Lib.atoiAll l = .ok v) (w : World) :
    Calls Tryd.prog 63 #[.string (ofL l), .int .i64 10, .int .i64 0] w fun e w' => e = .returned (.tuple #[.int .i64 v, .nilIface]) ∧ Below w.heap.size w w' := by
  refine (Tryd.strconv_ParseInt_10_at0_ok (ofL l) (by rw [ofL_size]; omega) v (by rw [show (ofL l).data.toList = l from toL_ofL l, Lib.parseIntB_64]; exact h) w).mono ?_
  rintro e w' ⟨rfl, rfl | ⟨t, rfl⟩⟩
  · exact ⟨rfl, Below.refl _ _⟩
  · exact ⟨rfl, Lib.bytesWorld_below _ _ _⟩

/-- A text whose first line has two numbers. -/
structure TwoN (l h1 h2 rest : List UInt8) (R C : Int) : Prop where
  eq : l = h1 ++ 32 :: (h2 ++ 10 :: rest)
  n1 : 32 ∉ h1
  m1 : 10 ∉ h1
  m2 : 10 ∉ h2
  r2 : 13 ∉ h2
  e2 : h2 ≠ []
  a1 : Lib.atoiAll h1 = .ok R
  a2 : Lib.atoiAll h2 = .ok C
  l1 : h1.length ≤ 10
  l2 : h2.length ≤ 10
  lt : l.length ≤ 1000000
  b1 : 0 ≤ R ∧ R ≤ 20
  b2 : 0 ≤ C ∧ C ≤ 20
theorem byte_of (l : List UInt8) {k : Nat} (hk : k < (ofL l).size) : (ofL l)[k].toNat = (l[k]'(by rw [ofL_size] at hk; exact hk)).toNat := by
  rw [ofL_get l k (by rw [ofL_size] at hk; exact hk)]
section
variable {l h1 h2 rest : List UInt8} {R C : Int}
theorem TwoN.before (h : TwoN l h1 h2 rest R C) {k : Nat} (hk : k < h1.length + 1 + h2.length) (hkl : k < l.length) : l[k] ≠ 10 := by
  intro e
  have hm : l[k]? = some 10 := by rw [List.getElem?_eq_getElem hkl, e]
  rw [h.eq] at hm
  rcases Nat.lt_or_ge k h1.length with h3 | h3
  · rw [List.getElem?_append_left h3] at hm
    exact h.m1 (List.mem_of_getElem? hm)
  · rw [List.getElem?_append_right h3] at hm
    rcases Nat.lt_or_ge 0 (k - h1.length) with h4 | h4
    · rw [show k - h1.length = (k - h1.length - 1) + 1 by omega, List.getElem?_cons_succ, List.getElem?_append_left (by omega)] at hm
      exact h.m2 (List.mem_of_getElem? hm)
    · rw [show k - h1.length = 0 by omega] at hm
      simp at hm
theorem TwoN.at10 (h : TwoN l h1 h2 rest R C) : l[h1.length + 1 + h2.length]? = some 10 := by
  rw [h.eq, List.getElem?_append_right (by omega), show h1.length + 1 + h2.length - h1.length = h2.length + 1 by omega, List.getElem?_cons_succ, List.getElem?_append_right (by omega)]
  simp
theorem TwoN.before32 (h : TwoN l h1 h2 rest R C) {k : Nat} (hk : k < h1.length) (hkl : k < l.length) : l[k] ≠ 32 := by
  intro e
  have hm : l[k]? = some 32 := by rw [List.getElem?_eq_getElem hkl, e]
  rw [h.eq, List.getElem?_append_left hk] at hm
  exact h.n1 (List.mem_of_getElem? hm)
theorem TwoN.at32 (h : TwoN l h1 h2 rest R C) : l[h1.length]? = some 32 := by
  rw [h.eq, List.getElem?_append_right (Nat.le_refl _), Nat.sub_self]
  rfl
theorem TwoN.last (h : TwoN l h1 h2 rest R C) (hkl : h1.length + h2.length < l.length) : l[h1.length + h2.length] ≠ 13 := by
  intro e
  have hm : l[h1.length + h2.length]? = some 13 := by rw [List.getElem?_eq_getElem hkl, e]
  have hp := List.length_pos_iff.2 h.e2
  rw [h.eq, List.getElem?_append_right (by omega), show h1.length + h2.length - h1.length = (h2.length - 1) + 1 by omega, List.getElem?_cons_succ, List.getElem?_append_left (by omega)] at hm
  exact h.r2 (List.mem_of_getElem? hm)
theorem TwoN.len (h : TwoN l h1 h2 rest R C) : h1.length + 1 + h2.length < l.length := (List.getElem?_eq_some_iff.1 h.at10).1
theorem TwoN.cut1 (h : TwoN l h1 h2 rest R C) : (ofL l).extract 0 h1.length = ofL h1 := by
  rw [ofL_extract, List.drop_zero, h.eq, Nat.sub_zero, List.take_left]
theorem TwoN.cut2 (h : TwoN l h1 h2 rest R C) : (ofL l).extract (h1.length + 1) (h1.length + 1 + h2.length) = ofL h2 := by
  rw [ofL_extract, show h1.length + 1 + h2.length - (h1.length + 1) = h2.length by omega, h.eq, show h1 ++ 32 :: (h2 ++ 10 :: rest) = (h1 ++ [32]) ++ (h2 ++ 10 :: rest) by simp, show h1.length + 1 = (h1 ++ [32]).length by simp, List.drop_left, List.take_left]
end
theorem u8_ne {x : UInt8} {n : Nat} (hn : n < 256) (h : x ≠ UInt8.ofNat n) : ((x.toNat : Int) != (n : Int)) = true := by
  rw [bne_iff_ne]
  intro e
  apply h
  have : x.toNat = n := by omega
  rw [← this]
  simp
set_option maxHeartbeats 1000000 in
set_option maxRecDepth 5000 in
theorem fair_any (l h1 h2 rest : List UInt8) (R C : Int) (w : World) (h : TwoN l h1 h2 rest R C) :
    Calls Tryd.prog 22 #[.string (ofL l)] w fun e w' => e = .returned (.bool true) ∧ Below w.heap.size w w' := by
  have HT := Lib.hid h
  have hlen := h.len
  have hlt := h.lt
  have hl1 := h.l1
  have hl2 := h.l2
  have hz : (ofL l).size = l.length := ofL_size l
  have hp := List.length_pos_iff.2 h.e2
  obtain ⟨p, hpe⟩ : ∃ p, p = h1.length + 1 + h2.length := ⟨_, rfl⟩
  obtain ⟨q, hqe⟩ : ∃ q, q = h1.length := ⟨_, rfl⟩
  have HP := Lib.hid hpe
  have HQ := Lib.hid hqe
  have hp1 : p < l.length := by omega
  have hp2 : p ≤ 30 := by omega
  have hqp : q + 2 ≤ p := by omega
  obtain ⟨s, hs⟩ : ∃ s, s = ofL l := ⟨_, rfl⟩
  rw [← hs] at hz ⊢
  have HS := Lib.hid hs
  clear h hlen hl1 hl2 hp hpe hqe hs
  go_enter Tryd.func22, Tryd.ntmps22
  go_upto_region 2 with fail
  go_loopw [3] (fun iv wr => ∃ k : Nat, k ≤ p ∧ iv = .int .i64 k ∧ Hid (wr = w)) (fun iv _ => p - (intOf iv).toNat)
  case atStart => exact ⟨0, Nat.zero_le _, rfl, Lib.hid rfl⟩
  case round =>
    obtain ⟨k, hk, rfl, HW⟩ := hrel
    have hks : k < s.size := by omega
    have hch : s[k].toNat = (l[k]'(by omega)).toNat := by
      have := HS.out
      subst this
      exact byte_of l hks
    by_cases hkp : k < p
    · have hne : ((s[k].toNat : Int) != 10) = true := by
        rw [hch]
        exact u8_ne (n := 10) (by decide) (HT.out.before (by have := HP.out; omega) (by omega))
      clear hch
      go_wp2_with fail
      exact ⟨⟨k + 1, by omega, by go_num, HW⟩, by simp [intOf]; omega⟩
    · obtain rfl : k = p := by omega
      have hne : ((s[k].toNat : Int) != 10) = false := by
        have h10 := HT.out.at10
        rw [← HP.out, List.getElem?_eq_getElem hp1] at h10
        injection h10 with h10
        rw [hch, h10]
        rfl
      clear hch
      go_wp2_with fail
      go_loopw [4] (fun iv wr => ∃ k : Nat, k ≤ q ∧ iv = .int .i64 k ∧ Hid (wr = w)) (fun iv _ => q - (intOf iv).toNat)
      case atStart => exact ⟨0, Nat.zero_le _, rfl, HW⟩
      case round =>
        clear hne HW
        obtain ⟨i, hi, rfl, HW⟩ := hrel
        have his : i < s.size := by omega
        have hip : (i : Int) < (k : Int) := by omega
        have hch : s[i].toNat = (l[i]'(by omega)).toNat := by
          have := HS.out
          subst this
          exact byte_of l his
        by_cases hiq : i < q
        · have hne : ((s[i].toNat : Int) != 32) = true := by
            rw [hch]
            exact u8_ne (n := 32) (by decide) (HT.out.before32 (by have := HQ.out; omega) (by omega))
          clear hch
          go_wp2_with fail
          exact ⟨⟨i + 1, by omega, by go_num, HW⟩, by simp [intOf]; omega⟩
        · obtain rfl : i = q := by omega
          have hne : ((s[i].toNat : Int) != 32) = false := by
            have h10 := HT.out.at32
            rw [← HQ.out, List.getElem?_eq_getElem (by omega)] at h10
            injection h10 with h10
            rw [hch, h10]
            rfl
          obtain ⟨pm, hpm⟩ : ∃ pm, k = pm + 1 := ⟨k - 1, by omega⟩
          have hpk : (k : Int) - 1 = (pm : Int) := by omega
          have hpms : pm < s.size := by omega
          have hcr : ((s[pm].toNat : Int) == 13) = false := by
            have := HS.out
            subst this
            rw [byte_of l hpms, beq_eq_false_iff_ne]
            intro e
            have e1 : pm = h1.length + h2.length := by have := HP.out; omega
            subst e1
            refine HT.out.last (by omega) ?_
            have e2 : (l[h1.length + h2.length]'(by omega)).toNat = 13 := by omega
            exact UInt8.toNat.inj e2
          have hc1 : s.extract 0 i = ofL h1 := by rw [HS.out, HQ.out]; exact HT.out.cut1
          have hc2 : s.extract (i + 1) k = ofL h2 := by rw [HS.out, HQ.out, HP.out]; exact HT.out.cut2
          have hge : decide ((k : Int) ≤ (i : Int)) = false := decide_eq_false (by omega)
          have hk0 : decide ((0 : Int) < (k : Int)) = true := decide_eq_true (by omega)
          have HPM := Lib.hid hpm
          have I1 := Lib.hid (atoi_call h1 R (by have := HT.out.l1; omega) HT.out.a1 wr)
          clear hch hpm
          go_wp2_with fail
          refine I1.out.mono ?_
          rintro e w1 ⟨rfl, hb1⟩
          have HB1 : Hid (Below w.heap.size w w1) := Lib.hid (by rw [← HW.out]; exact hb1)
          have I2 := Lib.hid (atoi_call h2 C (by have := HT.out.l2; omega) HT.out.a2 w1)
          clear hb1 I1
          go_wp2_with fail
          refine I2.out.mono ?_
          rintro e w2 ⟨rfl, hb2⟩
          have HB2 := Lib.hid (HB1.out.trans (hb2.mono HB1.out.size))
          obtain ⟨hR1, hR2⟩ := HT.out.b1
          obtain ⟨hC1, hC2⟩ := HT.out.b2
          have hRC : R * C ≤ 400 := Int.le_trans (Int.mul_le_mul_of_nonneg_left hC2 hR1) (Int.le_trans (Int.mul_le_mul_of_nonneg_right hR2 (by decide)) (by decide))
          have hRC0 : 0 ≤ R * C := Int.mul_nonneg hR1 hC1
          clear hb2 I2 hcr hc1 hc2 hpk hpms
          go_wp2_with fail
          go_ret
          refine ⟨?_, HB2.out⟩
          show Ending.returned (Value.bool (decide (R * C ≤ 65536))) = _
          rw [decide_eq_true (by omega)]
end Go.Proofs.YtjifoimkjgepcaaDoor.Tx
