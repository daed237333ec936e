/-
  The sentences of two texts, one behind the other: plain.
-/
import Derived.Test.YtaniafohcaiedaaDoorRo
import Derived.Test.YtaniafohcaiedaaDoorSq
import Derived.Test.YtaniafohcaiedaaDoorCu
set_option linter.unusedVariables false
set_option linter.unusedSimpArgs false
namespace Go.Proofs.YtaniafohcaiedaaDoor.Sn
open Go.RowKit Go.Proofs.YtaniafohcaiedaaDoor.K Go.Proofs.YtaniafohcaiedaaDoorW.PrintWords

/-- The sentences of a text. -/
def SS (dl fl : List Int) (most : Int) (s : ByteArray) : List ByteArray := sents dl fl most (decT s.data.toList) s 0
theorem sentsR_len (dl fl : List Int) (most : Int) : ∀ (k : Nat) (R : List Int), R.length ≤ k → (sentsR dl fl most R).length ≤ R.length
  | 0, R, h => by
    rw [List.length_eq_zero_iff.1 (Nat.le_zero.1 h), sentsR_nil]
    exact Nat.le_refl _
  | k + 1, R, h => by
    by_cases h0 : R = []
    · rw [h0, sentsR_nil]; exact Nat.le_refl _
    · have hp := u1_pos (dl := dl) (fl := fl) (most := most) h0 0
      have hl := List.length_pos_iff.2 h0
      have := sentsR_len dl fl most k (R.drop (u1 dl fl most R 0).1) (by rw [List.length_drop]; omega)
      rw [sentsR_cons h0, List.length_cons]
      rw [List.length_drop] at this
      omega
theorem SS_runes (dl fl : List Int) (most : Int) (s : ByteArray) (hg : GoodL s.data.toList) : SS dl fl most s = (sentsR dl fl most (rnL s.data.toList)).map fun rs => ⟨(bytesL rs).toArray⟩ := by
  have h := sents_runes dl fl most s s.size 0 (by omega) (Nat.zero_le _) hg
  rw [List.drop_zero] at h
  exact h
theorem SS_len (dl fl : List Int) (most : Int) (s : ByteArray) (hg : GoodL s.data.toList) : (SS dl fl most s).length ≤ s.size := by
  rw [SS_runes _ _ _ _ hg, List.length_map]
  have h1 := sentsR_len dl fl most _ (rnL s.data.toList) (Nat.le_refl _)
  have h2 := rnL_len _ s.data.toList (Nat.le_refl _)
  have hz : s.data.toList.length = s.size := data_length s
  omega
theorem cat_list (s t : ByteArray) : (s ++ t).data.toList = s.data.toList ++ t.data.toList := by simp
theorem SS_two (dl fl : List Int) (most : Int) (s t : ByteArray) (La Lb : Nat) (hs : GoodL s.data.toList) (ht : GoodL t.data.toList) (hs3 : s.size ≤ 300) (hm : 700 ≤ most) (hLa : (rnL s.data.toList).length = La) (hLb : (rnL t.data.toList).length = Lb) (h1 : 0 < La) (h2 : 0 < Lb)
    (hA : memB ((rnL s.data.toList).getD (La - 1) 0) dl = true) (hB : memB ((rnL t.data.toList).getD 0 0) dl = false) (hC : memB ((rnL t.data.toList).getD 0 0) fl = false) :
    SS dl fl most (s ++ t) = SS dl fl most s ++ SS dl fl most t := by
  obtain ⟨hr, hg⟩ := rnL_append t.data.toList hs
  rw [SS_runes _ _ _ _ hs, SS_runes _ _ _ _ ht, SS_runes _ _ _ (s ++ t) (by rw [cat_list]; exact hg ht), cat_list, hr]
  have hra := rnL_len _ s.data.toList (Nat.le_refl _)
  have hz : s.data.toList.length = s.size := data_length s
  generalize rnL s.data.toList = RA at hLa hA hra ⊢
  generalize rnL t.data.toList = RB at hLb hB hC ⊢
  obtain ⟨b, B, rfl⟩ : ∃ b B, RB = b :: B := by
    cases RB with
    | nil => simp at hLb; omega
    | cons b B => exact ⟨b, B, rfl⟩
  rw [List.getD_cons_zero] at hB hC
  have hne : RA ≠ [] := by intro e; rw [e] at hLa; simp at hLa; omega
  obtain ⟨A, d, rfl⟩ : ∃ A d, RA = A ++ [d] := ⟨RA.dropLast, RA.getLast hne, (List.dropLast_concat_getLast hne).symm⟩
  rw [List.length_append, List.length_singleton] at hLa hra
  have hd : d ∈ dl := by
    have e : (A ++ [d]).getD (La - 1) 0 = d := by
      rw [show La - 1 = A.length by omega]
      simp [List.getD]
    rw [e] at hA
    exact memB_iff.1 hA
  have hb1 : b ∉ dl := fun h => by rw [memB_true h] at hB; cases hB
  have hb2 : b ∉ fl := fun h => by rw [memB_true h] at hC; cases hC
  rw [List.append_assoc, List.singleton_append, sentsR_two dl fl most b B hb1 hb2 d hd A.length A (Nat.le_refl _) (by omega), List.map_append]
theorem sents_call {D F : Option Addr} {cd cf : Nat} {most : Int} {dl fl : List Int} (u : ByteArray) {Z : List ByteArray} {w W : World} (hu : u.size ≤ 2147483647) (hZ : SS dl fl most u = Z) (hD : (Kd.int .i32).C w D dl.length dl) (hF : (Kd.int .i32).C w F fl.length fl) (hdl : dl.length ≤ 2147483647) (hfl : fl.length ≤ 2147483647)
    (hT : Lib.Utf8Tabs 1 2 w) (hb : Below w.heap.size w W) :
    Calls Tryd.prog 27 #[.agg #[.slice D dl.length cd, .slice F fl.length cf, .bool false, .bool false, .int .i64 most], .string u] W (RetRow Kd.string 9 Z W) := by
  have hT1 := tabs_keep hT hb
  have h := sentences_any D F cd cf most dl fl u (decT u.data.toList) W (Kd.C_below hD hb) (Kd.C_below hF hb) hdl hfl hu (fun wx Cx hbx hcx _ => utf8_decodes (tabs_keep hT1 hbx) hcx)
  unfold splV at h
  have e : sents dl fl most (decT u.data.toList) u 0 = Z := hZ
  rw [e] at h
  exact h
theorem apart_of {w : World} {v u : Value} {ys : List ByteArray} (hv : ∀ k, v.ownBlock = some k → w.heap.size ≤ k) (hu : Own w u ys) : Apart v u := fun k hk e => by
  have h1 := hv k hk
  have h2 := hu.lt k e
  omega
theorem apart_new {w : World} {v : Value} {n c : Nat} {xs : List ByteArray} (hv : Own w v xs) : Apart v (.slice (some ⟨w.heap.size, 0, none⟩) n c) := fun k hk e => by
  have h1 := hv.lt k hk
  simp [Value.ownBlock] at e
  omega
theorem from_new {w0 w : World} {B n c : Nat} (h : Hid (Below B w0 w)) (hB : B ≤ w0.heap.size) : ∀ k, (Value.slice (some ⟨w.heap.size, 0, none⟩) n c).ownBlock = some k → B ≤ k := fun k hk => by
  have h1 := h.out.size
  simp [Value.ownBlock] at hk
  omega
end Go.Proofs.YtaniafohcaiedaaDoor.Sn
