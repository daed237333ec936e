/-
  The walk of (*spec.kTree).lines: the text of a tree, told as it is built.
-/
import Derived.Test.YtjifoimkjgepcaaXc
import Derived.Deep.QuietTactic
import Derived.BigQuiet
set_option linter.unusedVariables false
set_option linter.unusedSimpArgs false
namespace Go.Proofs.Ytjifoimkjgepcaa.Flt
open Go.RowKit Go.Proofs.Ytjifoimkjgepcaa.K Go.Proofs.Ytjifoimkjgepcaa.Fx Go.Proofs.YtjifoimkjgepcaaW.PrintWords

/-- A node of the reference's tree, as it is read: its row of children, and each child's text. -/
def KFan (w : World) (x : Nd) : Prop := x.es.length ≤ maxLen ∧ ∃ A c, w.cell? ⟨x.b, 2, none⟩ = some (.slice A x.es.length c) ∧ ∀ j (h : j < x.es.length), ∃ g, A = some ⟨g, 0, none⟩ ∧ w.cell? ⟨g, j, none⟩ = some (.pointer (some ⟨x.es[j].2, 0, none⟩)) ∧ w.cell? ⟨x.es[j].2, 0, none⟩ = some (.string x.es[j].1)
theorem KFan.drewN {w : World} {x : Nd} (h : KFan w x) (n : Nat) : KFan (w.drewN n) x := h
theorem sp_succ : ∀ k, sp k ++ [32, 32] = sp (k + 1)
  | 0 => rfl
  | k + 1 => by
    show ([32, 32] ++ sp k) ++ [32, 32] = [32, 32] ++ sp (k + 1)
    rw [List.append_assoc, sp_succ k]
set_option maxHeartbeats 1000000 in
set_option maxRecDepth 100000 in
theorem lines_any : ∀ (m : Nat) (d : DT) (k : Nat) (w : World), d.nodes.length ≤ m → (∀ x ∈ d.nodes, KFan w x) → (textT k d.strip).length ≤ 140737488355328 → k + m ≤ 100000 →
    Calls Try.prog 39 #[.pointer (some ⟨d.b, 0, none⟩), .string ⟨(sp k).toArray⟩] w fun e w' => e = .returned (.string ⟨(textT k d.strip).toArray⟩) ∧ ∃ n, w' = w.drewN n := by
  intro m
  induction m with
  | zero =>
    intro d k w hm
    rw [nodes_eq] at hm
    simp at hm
  | succ m ih =>
    intro d k w hm hok hlen hk
    obtain ⟨hmx, A, c, hc, hF⟩ := hok ⟨d.b, d.v, ends d.kids⟩ (by rw [nodes_eq]; exact List.mem_cons_self ..)
    have hel : (ends d.kids).length = d.kids.length := by simp [ends]
    rw [show (⟨d.b, d.v, ends d.kids⟩ : Nd).es = ends d.kids from rfl, hel] at hc
    have hkm : d.kids.length ≤ 9223372036854775807 := by rw [show (⟨d.b, d.v, ends d.kids⟩ : Nd).es = ends d.kids from rfl, hel] at hmx; simpa [maxLen] using hmx
    have HF := Lib.hid hF
    have HC := Lib.hid hc
    have HOK := Lib.hid hok
    have HEL := Lib.hid hel
    rw [textT_kids] at hlen ⊢
    rw [strip_kids] at hlen ⊢
    obtain ⟨ks, hks⟩ : ∃ ks, ks = d.kids.map fun x => (x.1, x.2.strip) := ⟨_, rfl⟩
    rw [← hks] at hlen ⊢
    have hkl : ks.length = d.kids.length := by rw [hks, List.length_map]
    have HKS := Lib.hid hks
    have HKL := Lib.hid hkl
    have HLEN := Lib.hid hlen
    have HM := Lib.hid hm
    obtain ⟨P0, hP0⟩ : ∃ P0 : ByteArray, P0 = ⟨(sp k).toArray⟩ := ⟨_, rfl⟩
    rw [← hP0]
    have HP0 := Lib.hid hP0
    clear hF hc hok hel hks hkl hlen hm hmx hP0
    go_enter Try.func39, Try.ntmps39
    go_wp2_with fail
    go_loopw [5, 6] (fun s i wr => ∃ j : Nat, j ≤ d.kids.length ∧ i = .int .i64 j ∧ s = .string ⟨(textK k (ks.take j)).toArray⟩ ∧ Hid (∃ n, wr = w.drewN n)) (fun _ i _ => d.kids.length - (intOf i).toNat)
    case atStart => exact ⟨0, Nat.zero_le _, rfl, by simp [textK], Lib.hid ⟨0, rfl⟩⟩
    case round =>
      obtain ⟨j, hj, rfl, rfl, HQ⟩ := hrel
      have hcr : wr.cell? ⟨d.b, 2, none⟩ = some (.slice A d.kids.length c) := by
        obtain ⟨q, hq⟩ := HQ.out
        rw [hq]; exact HC.out
      by_cases hlt : j < d.kids.length
      · have hje : j < (ends d.kids).length := by rw [HEL.out]; exact hlt
        obtain ⟨g, rfl, h1, h2⟩ := HF.out j hje
        have hnm : ((ends d.kids)[j]'hje).1 = d.kids[j].1 := by simp [ends]
        have hch : ((ends d.kids)[j]'hje).2 = (d.kids[j].2).b := by simp [ends]
        rw [hnm] at h2
        rw [hch] at h1 h2
        obtain ⟨nm, hnme⟩ : ∃ nm, nm = d.kids[j].1 := ⟨_, rfl⟩
        obtain ⟨ch, hche⟩ : ∃ ch, ch = (d.kids[j].2).b := ⟨_, rfl⟩
        rw [← hnme, ← hche] at h2
        rw [← hche] at h1
        have r1 : wr.cell? ⟨g, j, none⟩ = some (.pointer (some ⟨ch, 0, none⟩)) := by
          obtain ⟨q, hq⟩ := HQ.out
          rw [hq]; exact h1
        have r2 : wr.cell? ⟨ch, 0, none⟩ = some (.string nm) := by
          obtain ⟨q, hq⟩ := HQ.out
          rw [hq]; exact h2
        have hline : textK k (ks.take (j + 1)) = textK k (ks.take j) ++ (sp k ++ nm.data.toList ++ [10] ++ textT (k + 1) (d.kids[j].2).strip) := by
          have hts : ks.take (j + 1) = ks.take j ++ [(nm, (d.kids[j].2).strip)] := by
            rw [List.take_succ_eq_append_getElem (by rw [HKL.out]; exact hlt), hnme]
            congr 2
            simp only [HKS.out, List.getElem_map]
          rw [hts, textK_append]
          simp [textK]
        have hall : (textK k (ks.take (j + 1))).length ≤ (textK k ks).length := by
          have := textK_append k (ks.take (j + 1)) (ks.drop (j + 1))
          rw [List.take_append_drop] at this
          rw [this, List.length_append]
          omega
        have hlen := HLEN.out
        have hl1 : (textK k (ks.take j)).length + (2 * k + nm.size + 1 + (textT (k + 1) (d.kids[j].2).strip).length) ≤ 140737488355328 := by
          rw [hline] at hall
          simp only [List.length_append, sp_length, List.length_singleton, Array.length_toList] at hall
          have : nm.data.size = nm.size := rfl
          omega
        have hPs : P0.size = 2 * k := by rw [HP0.out]; show (sp k).toArray.size = _; rw [List.size_toArray, sp_length]
        obtain ⟨S, hS⟩ : ∃ S : ByteArray, S = ⟨(textK k (ks.take j)).toArray⟩ := ⟨_, rfl⟩
        obtain ⟨T, hT⟩ : ∃ T : ByteArray, T = ⟨(textT (k + 1) (d.kids[j].2).strip).toArray⟩ := ⟨_, rfl⟩
        have hSs : S.size = (textK k (ks.take j)).length := by rw [hS]; exact List.size_toArray
        have hTs : T.size = (textT (k + 1) (d.kids[j].2).strip).length := by rw [hT]; exact List.size_toArray
        have hPP : P0 ++ ⟨#[32, 32]⟩ = ⟨(sp (k + 1)).toArray⟩ := ba_ext (by
          rw [ByteArray.data_append, HP0.out, ← sp_succ]
          simp)
        have HIH : Hid (∀ n, Calls Try.prog 39 #[.pointer (some ⟨ch, 0, none⟩), .string (P0 ++ ⟨#[32, 32]⟩)] (wr.drewN n) fun e w' => e = .returned (.string T) ∧ ∃ m, w' = (wr.drewN n).drewN m) := Lib.hid (fun n => by
          rw [hPP, hT, hche]
          refine ih (d.kids[j].2) (k + 1) (wr.drewN n) (by have := kids_lt hlt; have := HM.out; omega) (fun x hx => ?_) (by omega) (by omega)
          obtain ⟨q, hq⟩ := HQ.out
          rw [hq]
          exact HOK.out x (kids_sub hlt x hx))
        have HFIN : Hid (S ++ (P0 ++ nm ++ ⟨#[10]⟩ ++ T) = ⟨(textK k (ks.take (j + 1))).toArray⟩) := Lib.hid (ba_ext (by
          rw [hline, hS, hT, HP0.out]
          simp only [ByteArray.data_append]
          simp))
        have z1 : ¬ (9223372036854775807 < P0.size + nm.size) := by omega
        have z2 : ¬ (9223372036854775807 < P0.size + nm.size + 1) := by omega
        have z3 : ¬ (9223372036854775807 < P0.size + 2) := by omega
        have z4 : ¬ (9223372036854775807 < P0.size + nm.size + 1 + T.size) := by omega
        have z5 : ¬ (9223372036854775807 < S.size + (P0.size + nm.size + 1 + T.size)) := by omega
        rw [← hS]
        clear hnm hch hnme hche hline hall hlen hl1 hPs hS hT hSs hTs hPP h1 h2
        go_wp2_with fail
        go_quiet ((go_at_call 39; exact Calls.quiet_of (HIH.out _)))
        have HQ2 : Hid (∃ n, wr.drewN nq = w.drewN n) := Lib.hid (by
          obtain ⟨q, hq⟩ := HQ.out
          exact ⟨q + nq, by rw [hq, World.drewN_drewN]⟩)
        generalize wr.drewN nq = wd at HQ2 ⊢
        go_wp2_with fail
        exact ⟨⟨j + 1, by omega, by go_num, by rw [HFIN.out], HQ2⟩, by simp [intOf]; omega⟩
      · obtain rfl : j = d.kids.length := by omega
        have HT : Hid (ks.take d.kids.length = ks) := Lib.hid (by rw [← HKL.out, List.take_length])
        rw [HT.out]
        go_wp2_with fail
        go_ret
        exact ⟨rfl, HQ.out⟩
end Go.Proofs.Ytjifoimkjgepcaa.Flt
