/-
  The walks of impl.Trie and laws.trie.
-/
import Derived.Test.YtjifoimkjgepcaaDoorDz
set_option linter.unusedVariables false
set_option linter.unusedSimpArgs false
namespace Go.Proofs.YtjifoimkjgepcaaDoor.Da
open Go.RowKit Go.ChangeShapes Go.Proofs.YtjifoimkjgepcaaDoor.K Go.Proofs.YtjifoimkjgepcaaDoorW.PrintWords

/-- The rests of all keys. -/
def ksAll (keys : List ByteArray) (ids : List Int) : Ks := ksOf keys ids 0 (List.range keys.length)
theorem ks_ids {keys : List ByteArray} {ids : List Int} (hk : Keys keys ids) : ∀ x ∈ ksAll keys ids, 0 ≤ x.2 := by
  intro x hx
  obtain ⟨j, hj, rfl⟩ := List.mem_map.1 hx
  have hj' : j < ids.length := by rw [hk.il]; simpa using hj
  show 0 ≤ idAt ids j
  rw [idAt_eq hj']
  exact (hk.idr _ (List.getElem_mem hj')).1
/-- Inputs that may be asked. -/
def Asked (inputs : List ByteArray) : Prop := inputs.length ≤ 2147483647 ∧ ∀ s ∈ inputs, (∀ a ∈ bl s, 1 ≤ a) ∧ s.size ≤ 2147483647
def AnsRet (keys : List ByteArray) (ids : List Int) (inputs : List ByteArray) (w : World) (e : Ending) (w' : World) : Prop :=
  ∃ v, e = .returned (.tuple #[v, .int .i64 0]) ∧ kAns.R tAns w' w.heap.size (fun _ => True) v (inputs.map (ansF (ksAll keys ids))) ∧ Below w.heap.size w w'
set_option maxHeartbeats 1000000 in
set_option maxRecDepth 100000 in
theorem trie_any (Ak Ai An : Option Addr) (ck ci cn : Nat) (keys : List ByteArray) (ids : List Int) (inputs : List ByteArray) (w : World) (hk : Keys keys ids) (hkC : Kd.string.C w Ak keys.length keys) (hiC : (Kd.int .i64).C w Ai ids.length ids)
    (hnC : Kd.string.C w An inputs.length inputs) (hin : Asked inputs) :
    Calls Tryd.prog 24 #[.slice Ak keys.length ck, .slice Ai ids.length ci, .slice An inputs.length cn] w (AnsRet keys ids inputs w) := by
  have HK := Lib.hid hk
  have HKC := Lib.hid hkC
  have HIC := Lib.hid hiC
  have HNC := Lib.hid hnC
  have HIN := Lib.hid hin
  have hlen := hk.len
  have hil := hk.il
  have HIL := Lib.hid hil
  have hpos : 0 < keys.length := List.length_pos_iff.2 hk.ne
  have hipos : 0 < ids.length := by omega
  have hilen : ids.length ≤ 4000 := by omega
  clear hk hkC hiC hnC hin hil
  go_enter Tryd.func24, Tryd.ntmps24
  go_wp2_with fail
  refine (clone_strs Ak ck keys w HKC.out (by omega)).mono ?_
  rintro e w1 ⟨v1, rfl, hr1, hb1⟩
  obtain ⟨kb, c1, rfl, hkb, hkl, curk, hkh⟩ := Kd.R_form hr1 hpos
  obtain ⟨A1', c1', hv1, hlc1, hC1⟩ := Kd.R_reads hr1
  injection hv1 with e1 _ _
  subst e1
  have HB1 := Lib.hid hb1
  have HC1 := Lib.hid hC1
  have HIC1 := Lib.hid (Kd.C_below HIC.out hb1)
  clear hr1 hb1 hC1 hkh
  go_wp2_with fail
  refine (clone_ints Ai ci ids w1 HIC1.out (by omega)).mono ?_
  rintro e w2 ⟨v2, rfl, hr2, hb2⟩
  obtain ⟨ib, c2, rfl, hib, hibl, curi, hih⟩ := Kd.R_form hr2 hipos
  obtain ⟨A2', c2', hv2, hlc2, hC2⟩ := Kd.R_reads hr2
  injection hv2 with e2 _ _
  subst e2
  have HB2 := Lib.hid (HB1.out.trans (hb2.mono HB1.out.size))
  have HC2 := Lib.hid hC2
  have HC12 := Lib.hid (Kd.C_below HC1.out hb2)
  clear hr2 hb2 hC2 hih
  go_wp2_with fail
  refine (build_any kb ib _ _ keys ids w2 HK.out HC12.out HC2.out).mono ?_
  rintro e w3 ⟨g, A, rfl, ht, hg, hb3⟩
  have HT := Lib.hid ht
  have HB3 := Lib.hid (HB2.out.trans (hb3.mono HB2.out.size))
  have HNC3 := Lib.hid (Kd.C_below HNC.out HB3.out)
  clear ht hb3
  go_wp2_with fail
  refine (ask_any g A (ksAll keys ids) An cn inputs w3 HT.out (ks_ids HK.out) HNC3.out HIN.out.2 HIN.out.1).mono ?_
  rintro e w4 ⟨v4, rfl, hr4, hb4⟩
  have HR4 := Lib.hid (Kd.R_lower hr4 HB3.out.size)
  have HB4 := Lib.hid (HB3.out.trans (hb4.mono HB3.out.size))
  clear hr4 hb4
  go_wp2_with fail
  go_ret2
  exact ⟨_, rfl, HR4.out, HB4.out⟩
end Go.Proofs.YtjifoimkjgepcaaDoor.Da
