/-
  The walks of spec.kFilters and spec.FilterText.
-/
import Derived.Test.YtjifoimkjgepcaaXj
import Derived.Test.YtjifoimkjgepcaaXd
set_option linter.unusedVariables false
set_option linter.unusedSimpArgs false
namespace Go.Proofs.Ytjifoimkjgepcaa.Flt
open Go.RowKit Go.Proofs.Ytjifoimkjgepcaa.K Go.Proofs.Ytjifoimkjgepcaa.Fx Go.Proofs.YtjifoimkjgepcaaW.PrintWords

def KRel (rb base : Nat) (fs : List (List ByteArray)) (w : World) (i : Value) (wr : World) : Prop :=
  ∃ (k : Nat) (D : DT) (F : Nat → Bool), k ≤ fs.length ∧ i = .int .i64 k ∧ Hid (KInv wr base F D.nodes ∧ D.b = rb ∧ FlagOK F rb rb D.nodes ∧ D.strip = addAll (fs.take k) (.mk []) ∧ (∀ x ∈ D.nodes, x.es.length ≤ k)) ∧ Hid (Below base w wr)
/-- What kFilters leaves. -/
def KMade (fs : List (List ByteArray)) (w : World) (e : Ending) (w' : World) : Prop :=
  ∃ (D : DT) (F : Nat → Bool), e = .returned (.pointer (some ⟨D.b, 0, none⟩)) ∧ KInv w' w.heap.size F D.nodes ∧ D.strip = addAll fs (.mk []) ∧ (∀ x ∈ D.nodes, x.es.length ≤ fs.length) ∧ Below w.heap.size w w'
set_option maxHeartbeats 1000000 in
set_option maxRecDepth 100000 in
theorem kFilters_any (A : Option Addr) (c : Nat) (fs : List (List ByteArray)) (w : World) (hC : (Kd.slice 9 Kd.string).C w A fs.length fs) (hb : fs.length * 8 ≤ 140737488355320) (hm : ∀ x ∈ fs, x.length ≤ maxLen) :
    Calls Try.prog 38 #[.slice A fs.length c] w (KMade fs w) := by
  have HC := Lib.hid hC
  have HM := Lib.hid hm
  obtain ⟨w1, hw1⟩ : ∃ w1, w1 = w.alloc (.cells #[.string ⟨#[]⟩, .bool false, .slice none 0 0] tK) := ⟨_, rfl⟩
  have hB1 : Below w.heap.size w w1 := hw1 ▸ below_alloc (Below.refl _ w) _
  have hinv : KInv w1 w.heap.size (fun _ => false) (DT.mk w.heap.size (.slice none 0 0) []).nodes := by
    refine ⟨?_, by simp [DT.nodes, DT.nodesL]⟩
    intro x hx
    simp only [DT.nodes, DT.nodesL, List.mem_singleton] at hx
    subst hx
    exact ⟨Nat.le_refl _, ⟨⟨#[]⟩, by rw [hw1]; exact heap_new w _⟩, .inl ⟨rfl, rfl⟩, fun e he => by cases he⟩
  have HST := Lib.hid (show KInv w1 w.heap.size (fun _ => false) (DT.mk w.heap.size (.slice none 0 0) []).nodes ∧ (DT.mk w.heap.size (.slice none 0 0) []).b = w.heap.size ∧ FlagOK (fun _ => false) w.heap.size w.heap.size (DT.mk w.heap.size (.slice none 0 0) []).nodes ∧ (DT.mk w.heap.size (.slice none 0 0) []).strip = addAll (fs.take 0) (.mk []) ∧ (∀ x ∈ (DT.mk w.heap.size (.slice none 0 0) []).nodes, x.es.length ≤ 0) from
    ⟨hinv, rfl, ⟨rfl, fun x hx hn => by
      simp only [DT.nodes, DT.nodesL, List.mem_singleton] at hx
      subst hx
      exact absurd rfl hn⟩, rfl, fun x hx => by
      simp only [DT.nodes, DT.nodesL, List.mem_singleton] at hx
      subst hx
      simp [ends]⟩)
  have HB1 := Lib.hid hB1
  have HW1 := Lib.hid hw1
  clear hC hm hw1 hB1 hinv
  go_enter Try.func38, Try.ntmps38
  go_wp2_with fail
  rw [← HW1.out]
  go_loopw [4] (fun i wr => KRel w.heap.size w.heap.size fs w i wr) (fun i _ => fs.length - (intOf i).toNat)
  case atStart => exact ⟨0, _, _, Nat.zero_le _, rfl, HST, HB1⟩
  case round =>
    obtain ⟨k, D, F, hk, rfl, HT, HL⟩ := hrel
    by_cases hlt : k < fs.length
    · have hlt' : (k : Int) < (fs.length : Int) := by omega
      obtain ⟨ad, A', c', rfl, hcell, hl', hC'⟩ := rows_at HC.out k hlt
      have hcell' := (HL.out.cell (World.block_lt_of_cell? w _ hcell)).trans hcell
      have HC' := Lib.hid hC'
      have hsz := HL.out.size
      have HPUT := Lib.hid (put_any A' c' fs[k] wr w.heap.size k w.heap.size D F (HM.out _ (List.getElem_mem hlt)) (by
        intro j hj
        obtain ⟨a2, h1, h2⟩ := strs_at HC'.out j hj
        have h3 := World.block_lt_of_cell? w _ h2
        rw [add_block] at h3
        exact ⟨a2, h1, (HL.out.cell (p := a2.add j) (by rw [add_block]; exact h3)).trans h2, h3⟩) HT.out.1 HT.out.2.1 HT.out.2.2.1 hsz HT.out.2.2.2.2 (by omega))
      clear hcell hl' hC'
      go_wp2_with fail
      refine HPUT.out.mono ?_
      rintro e w2 ⟨rfl, D', F', h1, h2, h3, h4, h5, h6⟩
      have HT' : Hid (KInv w2 w.heap.size F' D'.nodes ∧ D'.b = w.heap.size ∧ FlagOK F' w.heap.size w.heap.size D'.nodes ∧ D'.strip = addAll (fs.take (k + 1)) (.mk []) ∧ (∀ x ∈ D'.nodes, x.es.length ≤ k + 1)) :=
        Lib.hid ⟨h1, h2, h3, by rw [h4, HT.out.2.2.2.1, List.take_succ_eq_append_getElem hlt, addAll_snoc], h5⟩
      have HL' := Lib.hid (HL.out.trans h6)
      clear h1 h2 h3 h4 h5 h6 hcell' HPUT
      go_wp2_with fail
      exact ⟨⟨k + 1, D', F', by omega, by go_num, HT', HL'⟩, by simp [intOf]; omega⟩
    · obtain rfl : k = fs.length := by omega
      have HR := Lib.hid (show KMade fs w (.returned (.pointer (some ⟨w.heap.size, 0, none⟩))) wr from ⟨D, F, by rw [HT.out.2.1], HT.out.1, by have := HT.out.2.2.2.1; rwa [List.take_length] at this, HT.out.2.2.2.2, HL.out⟩)
      go_wp2_with fail
      go_ret
      exact HR.out
/-- The reference's text of filters. -/
def STx (fs : List (List ByteArray)) (w : World) (e : Ending) (w' : World) : Prop := (∃ b : Bool, e = .returned (.tuple #[.string ⟨(textT 0 (addAll fs (.mk []))).toArray⟩, .bool b])) ∧ Below w.heap.size w w'
set_option maxHeartbeats 1000000 in
set_option maxRecDepth 100000 in
theorem specText_any (A : Option Addr) (c : Nat) (fs : List (List ByteArray)) (w : World) (hC : (Kd.slice 9 Kd.string).C w A fs.length fs) (hb : fs.length * 8 ≤ 140737488355320) (hm : ∀ x ∈ fs, x.length ≤ maxLen)
    (hn : nT (addAll fs (.mk [])) ≤ 99999) (ht : (textT 0 (addAll fs (.mk []))).length ≤ 140737488355328) :
    Calls Try.prog 16 #[.slice A fs.length c] w (STx fs w) := by
  have HC := Lib.hid hC
  have HN := Lib.hid hn
  have HTX := Lib.hid ht
  have HKF := Lib.hid (kFilters_any A c fs w hC hb hm)
  clear hC hm hn ht
  go_enter Try.func16, Try.ntmps16
  go_wp2_with fail
  refine HKF.out.mono ?_
  rintro e w1 ⟨D, F, rfl, hI, hst, hbd, hB⟩
  have HLN := Lib.hid (lines_any (nT D.strip) D 0 w1 (by rw [nodes_nT]; exact Nat.le_refl _) (fun x hx => (hI.ok x hx).fan (by have := hbd x hx; unfold maxLen; omega)) (by rw [hst]; exact HTX.out) (by rw [hst]; have := HN.out; omega))
  rw [hst] at HLN
  have HB1 := Lib.hid hB
  have HMX := Lib.hid (fun n => kMixed_any A c fs (w1.drewN n) (Kd.C_below HC.out (pw_below_drewN hB n)))
  clear hI hst hbd hB HKF
  go_wp2_with fail
  refine HLN.out.mono ?_
  rintro e w2 ⟨rfl, q, rfl⟩
  have HB2 := Lib.hid (pw_below_drewN HB1.out q)
  go_wp2_with fail
  refine (HMX.out q).mono ?_
  rintro e w3 ⟨⟨b, rfl⟩, hb3⟩
  have HB3 := Lib.hid (HB2.out.trans (hb3.mono HB2.out.size))
  clear hb3
  go_wp2_with fail
  go_ret2
  exact ⟨⟨_, rfl⟩, HB3.out⟩
end Go.Proofs.Ytjifoimkjgepcaa.Flt
