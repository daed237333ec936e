/-
  The walk of laws.FnIndexUnsorted.
-/
import Derived.Test.YtjifoimkjgepcaaVi
import Derived.Test.YtjifoimkjgepcaaHasStr
set_option linter.unusedVariables false
set_option linter.unusedSimpArgs false
namespace Go.Proofs.Ytjifoimkjgepcaa.Da
open Go.RowKit Go.ChangeShapes Go.Proofs.Ytjifoimkjgepcaa.K Go.Proofs.YtjifoimkjgepcaaW.PrintWords Go.Maps

theorem desc_of {ws : List ByteArray} (h2 : 2 ≤ ws.length) (hno : ¬ Ord ws false) (hcl : ∀ x ∈ ws, noZ x) (hm : memB ByteArray.empty ws = false) : Desc ws := by
  refine Classical.byContradiction fun hd => hno ⟨fun e => by rw [e] at h2; simp at h2, fun i hi => ?_⟩
  have hmem : kAt ws i ∈ ws := by rw [kAt_eq hi]; exact List.getElem_mem hi
  refine ⟨?_, hcl _ hmem, fun hp => ⟨?_, fun h => (nomatch h)⟩⟩
  · cases he : (kAt ws i).toList.isEmpty with
    | false => rfl
    | true =>
      have h0 : kAt ws i = ByteArray.empty := by
        apply ba_toList
        rw [List.isEmpty_iff.1 he]
        simp [ByteArray.toList_eq, ByteArray.empty, ByteArray.emptyWithCapacity]
        rfl
      rw [h0] at hmem
      rw [memB_true hmem] at hm
      cases hm
  · cases hl : ltB (kAt ws i) (kAt ws (i - 1)) with
    | false => rfl
    | true =>
      exfalso
      refine hd ⟨i - 1, by omega, ?_⟩
      rw [kAt_eq hi, kAt_eq (by omega)] at hl
      simpa [show i - 1 + 1 = i by omega] using hl
set_option maxHeartbeats 2000000 in
set_option maxRecDepth 100000 in
theorem indexUnsorted_walk (Ak : Option Addr) (ck : Nat) (ws : List ByteArray) (w : World) (hkC : Kd.string.C w Ak ws.length ws) (hkc : ws.length ≤ ck) :
    Calls Try.prog 12 #[.slice Ak ws.length ck] w fun e w' => e = .returned (.bool true) ∧ Below w.heap.size w w' := by
  have HKC := Lib.hid hkC
  have HKc := Lib.hid hkc
  clear hkC hkc
  go_enter Try.func12, Try.ntmps12
  go_wp2_with fail
  refine (zzFits3_any Ak ck ws w HKC.out).mono ?_
  rintro e w1 ⟨b0, rfl, hb, hw⟩
  have HFT0 := Lib.hid hb
  have HL1 := Lib.hid hw
  clear hb hw
  cases b0
  · go_wp2
    go_ret
    exact ⟨rfl, HL1.out⟩
  have HFT := Lib.hid (HFT0.out (by trivial))
  have hkl := HFT.out.1
  go_wp2_with fail
  refine (few_one Ak ck ws w1 (Kd.C_below HKC.out HL1.out) HKc.out HFT.out).mono ?_
  rintro e w2 ⟨b3, rfl, hb, hw⟩
  have HS := Lib.hid hb
  have HL2 := Lib.hid (HL1.out.trans (hw.mono HL1.out.size))
  clear hb hw
  cases b3
  · go_wp2_with fail
    refine (indexes_any w2).mono ?_
    rintro e wf ⟨rfl, hwf⟩
    have HLf := Lib.hid (HL2.out.trans (hwf.mono HL2.out.size))
    clear hwf
    go_wp2_with fail
    go_ret
    exact ⟨rfl, HLf.out⟩
  by_cases hc5 : ws.length < 2
  · go_wp2_with fail
    refine (indexes_any w2).mono ?_
    rintro e wf ⟨rfl, hwf⟩
    have HLf := Lib.hid (HL2.out.trans (hwf.mono HL2.out.size))
    clear hwf
    go_wp2_with fail
    go_ret
    exact ⟨rfl, HLf.out⟩
  have hq5 : decide ((ws.length : Int) < 2) = false := decide_eq_false (by omega)
  go_wp2_with fail
  refine (ordered_any Ak ck ws false w2 (Kd.C_below HKC.out HL2.out) HFT.out).mono ?_
  rintro e w3 ⟨b4, rfl, hb, hw⟩
  have HO := Lib.hid hb
  have HL3 := Lib.hid (HL2.out.trans (hw.mono HL2.out.size))
  clear hb hw
  cases b4
  rotate_left
  · go_wp2_with fail
    refine (indexes_any w3).mono ?_
    rintro e wf ⟨rfl, hwf⟩
    have HLf := Lib.hid (HL3.out.trans (hwf.mono HL3.out.size))
    clear hwf
    go_wp2_with fail
    go_ret
    exact ⟨rfl, HLf.out⟩
  go_wp2_with fail
  refine (clean_any Ak ck ws w3 (Kd.C_below HKC.out HL3.out) HFT.out).mono ?_
  rintro e wz ⟨b6, rfl, hb, rfl⟩
  have HCL := Lib.hid hb
  clear hb
  cases b6
  · go_wp2_with fail
    refine (indexes_any wz).mono ?_
    rintro e wf ⟨rfl, hwf⟩
    have HLf := Lib.hid (HL3.out.trans (hwf.mono HL3.out.size))
    clear hwf
    go_wp2_with fail
    go_ret
    exact ⟨rfl, HLf.out⟩
  go_wp2_with fail
  refine (hasStr_any Ak ck ws ByteArray.empty wz (Kd.C_below HKC.out HL3.out)).mono ?_
  rintro e w4 ⟨rfl, hw⟩
  have HL4 := Lib.hid (HL3.out.trans (hw.mono HL3.out.size))
  clear hw
  cases hmb : memB ByteArray.empty ws
  rotate_left
  · go_wp2_with fail
    refine (indexes_any w4).mono ?_
    rintro e wf ⟨rfl, hwf⟩
    have HLf := Lib.hid (HL4.out.trans (hwf.mono HL4.out.size))
    clear hwf
    go_wp2_with fail
    go_ret
    exact ⟨rfl, HLf.out⟩
  have HD : Hid (Desc ws) := Lib.hid (desc_of (by omega) (fun h => by have := HO.out.2 h; cases this) (HCL.out.1 (by trivial)) hmb)
  have hl1 : ws.length ≤ 100000 := by have := len_le_sum ws; have := HS.out (by trivial); omega
  clear hmb
  go_wp2_with fail
  refine (indexNo_any Ak none ck 0 0 ws w4 (Kd.C_below HKC.out HL4.out) HD.out hl1).mono ?_
  rintro e wa ⟨rfl, hb⟩
  have HL5 := Lib.hid (HL4.out.trans (hb.mono HL4.out.size))
  clear hb
  go_wp2_with fail
  refine (indexBytesNo_any Ak ck ws wa (Kd.C_below HKC.out HL5.out) HD.out hl1).mono ?_
  rintro e wb ⟨rfl, hb⟩
  have HL6 := Lib.hid (HL5.out.trans (hb.mono HL5.out.size))
  clear hb
  go_wp2_with fail
  refine (indexes_any wb).mono ?_
  rintro e wf ⟨rfl, hwf⟩
  have HLf := Lib.hid (HL6.out.trans (hwf.mono HL6.out.size))
  clear hwf
  go_wp2_with fail
  go_ret
  exact ⟨rfl, HLf.out⟩
end Go.Proofs.Ytjifoimkjgepcaa.Da
