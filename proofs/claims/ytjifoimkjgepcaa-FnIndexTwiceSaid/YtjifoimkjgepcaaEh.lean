/-
  The walks of spec.dBegins and spec.Half.
-/
import Derived.Test.YtjifoimkjgepcaaEg
import Derived.Test.YtjifoimkjgepcaaHasStr
set_option linter.unusedVariables false
set_option linter.unusedSimpArgs false
namespace Go.Proofs.Ytjifoimkjgepcaa.Da
open Go.RowKit Go.ChangeShapes Go.Proofs.Ytjifoimkjgepcaa.K Go.Proofs.YtjifoimkjgepcaaW.PrintWords

/-- Whether a text begins with another one, as the code reckons it. -/
def begB (a b : ByteArray) : Bool := decide (b.size ≤ a.size) && ((a.extract 0 b.size).toList == b.toList)
theorem begB_no {a b : ByteArray} (h : begB a b = false) : ¬ bl b <+: bl a := by
  intro hp
  have hl : b.size ≤ a.size := by have := hp.length_le; rw [bl_length, bl_length] at this; exact this
  have hd : b.data.toList = a.data.toList.take b.size := by
    have h1 := List.prefix_iff_eq_take.1 hp
    rw [bl_length] at h1
    unfold bl at h1
    rw [← List.map_take] at h1
    exact (List.map_inj_right (fun x y h => UInt8.toNat.inj h)).1 h1
  unfold begB at h
  rw [decide_eq_true hl, Bool.true_and, beq_eq_false_iff_ne, ByteArray.toList_eq, ByteArray.toList_eq] at h
  apply h
  rw [hd]
  simp
set_option maxHeartbeats 400000 in
theorem dBegins_any (a b : ByteArray) (w : World) (ha : a.size ≤ 2147483647) (hb : b.size ≤ 2147483647) : Calls Try.prog 50 #[.string a, .string b] w fun e w' => e = .returned (.bool (begB a b)) ∧ w = w' := by
  go_enter Try.func50, Try.ntmps50
  by_cases hl : b.size ≤ a.size
  · go_wp2
    go_ret
    exact ⟨by simp [begB, hl], rfl⟩
  · go_wp2
    go_ret
    exact ⟨by simp [begB, hl], rfl⟩
/-- Why an input is no half. -/
def HalfNo (keys : List ByteArray) (s : ByteArray) : Prop := (s ∈ keys ∧ s.toList.isEmpty = false) ∨ ∀ k ∈ keys, ¬ bl s <+: bl k
def HalfRet (keys : List ByteArray) (s : ByteArray) (w : World) (e : Ending) (w' : World) : Prop := ∃ b : Bool, e = .returned (.bool b) ∧ (b = false → HalfNo keys s) ∧ w = w'
set_option maxHeartbeats 1000000 in
theorem half_any (A : Option Addr) (c : Nat) (xs : List ByteArray) (s : ByteArray) (w : World) (hC : Kd.string.C w A xs.length xs) (hf : fits3 xs) (hs : s.size ≤ 2147483647) :
    Calls Try.prog 27 #[.slice A xs.length c, .string s] w (HalfRet xs s w) := by
  have hm := hC.2.1
  have HC := Lib.hid hC
  have hbl := hf.1
  have HB := Lib.hid hf
  clear hC hf
  go_enter Try.func27, Try.ntmps27
  obtain ⟨E, hE⟩ : ∃ E, s.toList.isEmpty = E := ⟨_, rfl⟩
  have HE := Lib.hid hE
  go_wp2
  go_loopw [10, 7, 5] (fun i x hv wr => ∃ k : Nat, k ≤ xs.length ∧ i = .int .i64 k ∧ (∃ h : Bool, hv = .bool h ∧ Hid (h = false → ∀ x ∈ xs.take k, ¬ bl s <+: bl x)) ∧ w = wr) (fun i _ _ _ => xs.length - (intOf i).toNat)
  case atStart => exact ⟨0, Nat.zero_le _, rfl, ⟨false, rfl, Lib.hid (by simp)⟩, rfl⟩
  case round =>
    obtain ⟨k, hk, rfl, ⟨h, rfl, hall⟩, hw⟩ := hrel
    by_cases hlt : k < xs.length
    · obtain ⟨ad, rfl, hc⟩ := strs_at HC.out k hlt
      have hc' : wr.cell? (ad.add k) = some (.string xs[k]) := by rw [← hw]; exact hc
      have hsz := HB.out.2 _ (List.getElem_mem hlt)
      have HW := Lib.hid hw
      obtain ⟨x, hx⟩ : ∃ x, x = xs[k] := ⟨_, rfl⟩
      rw [← hx] at hc' hsz
      have HX := Lib.hid hx
      obtain ⟨Q, hQ⟩ : ∃ Q, (x.toList == s.toList) = Q := ⟨_, rfl⟩
      have HQ := Lib.hid hQ
      clear hc hw hx
      have step : ∀ b : Bool, (b = false → ¬ bl s <+: bl x) → Hid ((h || b) = false → ∀ y ∈ xs.take (k + 1), ¬ bl s <+: bl y) := fun b hb => Lib.hid (by
        intro hh
        rw [Bool.or_eq_false_iff] at hh
        exact all_take hlt (hall.out hh.1) (by rw [← HX.out]; exact hb hh.2))
      have HST := Lib.hid step
      clear step
      have hgo : Q = false ∨ (Q = true ∧ E = true) ∨ (Q = true ∧ E = false) := by cases Q <;> cases E <;> simp
      rcases hgo with rfl | ⟨rfl, rfl⟩ | ⟨rfl, rfl⟩
      · cases h
        · go_wp2_with fail
          refine (dBegins_any x s wr hsz hs).mono ?_
          rintro e w1 ⟨rfl, rfl⟩
          have HS := HST.out (begB x s) (fun e => begB_no e)
          go_wp2
          refine ⟨⟨k + 1, by omega, by go_num, ⟨_, rfl, HS⟩, HW.out⟩, by simp [intOf]; omega⟩
        · have HS := HST.out false
          go_wp2
          refine ⟨⟨k + 1, by omega, by go_num, ⟨_, rfl, Lib.hid (by simp)⟩, HW.out⟩, by simp [intOf]; omega⟩
      · cases h
        · go_wp2_with fail
          refine (dBegins_any x s wr hsz hs).mono ?_
          rintro e w1 ⟨rfl, rfl⟩
          have HS := HST.out (begB x s) (fun e => begB_no e)
          go_wp2
          refine ⟨⟨k + 1, by omega, by go_num, ⟨_, rfl, HS⟩, HW.out⟩, by simp [intOf]; omega⟩
        · have HS := HST.out false
          go_wp2
          refine ⟨⟨k + 1, by omega, by go_num, ⟨_, rfl, Lib.hid (by simp)⟩, HW.out⟩, by simp [intOf]; omega⟩
      · go_wp2
        go_ret
        refine ⟨false, rfl, fun _ => .inl ⟨?_, HE.out⟩, HW.out⟩
        have e : x = s := ba_toList (by simpa using HQ.out)
        rw [← e, HX.out]
        exact List.getElem_mem hlt
    · go_wp2
      go_ret
      obtain rfl : k = xs.length := by omega
      refine ⟨h, rfl, fun e => .inr ?_, hw⟩
      have := hall.out e
      rw [List.take_length] at this
      exact this
end Go.Proofs.Ytjifoimkjgepcaa.Da
