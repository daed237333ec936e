/-
  The walks of search and Find.
-/
import Derived.Test.YtjifoimkjgepcaaDoorDy
import Derived.Test.YtjifoimkjgepcaaDoorDh
set_option linter.unusedVariables false
set_option linter.unusedSimpArgs false
namespace Go.Proofs.YtjifoimkjgepcaaDoor.Da
open Go.RowKit Go.ChangeShapes Go.Proofs.YtjifoimkjgepcaaDoor.K Go.Proofs.YtjifoimkjgepcaaDoorW.PrintWords

section
variable {g : Nat} {A : DA} {ks : Ks} {w : World}
theorem Trie.cb (h : Trie g A ks w) {i : Nat} (hi : i < A.n) : w.cell? ⟨g, i * 2, none⟩ = some (.int .i32 (A.b i)) := by rw [cell_of_heap h.arr, cells_b A hi]
theorem Trie.cc (h : Trie g A ks w) {i : Nat} (hi : i < A.n) : w.cell? ⟨g, i * 2 + 1, none⟩ = some (.int .i32 (A.c i)) := by rw [cell_of_heap h.arr, cells_c A hi]
theorem Trie.below (h : Trie g A ks w) {w' : World} (hb : Below w.heap.size w w') : Trie g A ks w' := { h with arr := (hb.block g (lt_of_heap h.arr)).trans h.arr }
theorem Trie.drewN (h : Trie g A ks w) (n : Nat) : Trie g A ks (w.drewN n) := { h with arr := h.arr }
end
/-- The byte at a place. -/
theorem byte_at (s : ByteArray) {k : Nat} (hk : k < s.size) : ∃ ch : Nat, (s[k].toNat = ch) ∧ (bl s).drop k = ch :: (bl s).drop (k + 1) ∧ ch ≤ 255 := by
  refine ⟨s[k].toNat, rfl, ?_, by have := s[k].toNat_lt; omega⟩
  rw [bl_at s hk]
  congr 1
  have h' : k < s.data.size := hk
  simp only [ByteArray.get!]
  rw [getElem!_pos s.data k h']
  rfl

/-- The result of search. -/
def SearchRet (g : Nat) (A : DA) (ks : Ks) (s : ByteArray) (w : World) (e : Ending) (w' : World) : Prop :=
  ∃ (p q i : Int) (ok : Bool), e = .returned (.tuple #[.int .i64 p, .int .i64 q, .int .i64 i, .bool ok]) ∧ (ok = true ↔ bl s ≠ [] ∧ walkK (bl s) ks ≠ []) ∧
    (ok = true → ∃ q0 : Nat, q = q0 ∧ q0 < A.n ∧ Tr A (fun _ => True) q0 (walkK (bl s) ks)) ∧ ∃ n, w' = w.drewN n
set_option maxHeartbeats 1000000 in
set_option maxRecDepth 100000 in
theorem search_any (dp g : Nat) (A : DA) (ks : Ks) (s : ByteArray) (w : World) (hd : w.cell? ⟨dp, 0, none⟩ = some (.slice (some ⟨g, 0, none⟩) A.n A.n)) (ht : Trie g A ks w) (hcl : ∀ a ∈ bl s, 1 ≤ a) (hs : s.size ≤ 2147483647) :
    Calls Tryd.prog 65 #[.pointer (some ⟨dp, 0, none⟩), .string s] w (SearchRet g A ks s w) := by
  have HT := Lib.hid ht
  have HCL := Lib.hid hcl
  have hn := ht.n
  have hpos := ht.pos
  clear ht hcl
  by_cases h0 : s.size = 0
  · have HS := Lib.hid h0
    go_enter Tryd.func65, Tryd.ntmps65
    go_wp2
    have hbl : bl s = [] := List.eq_nil_of_length_eq_zero (by rw [bl_length]; exact HS.out)
    exact bodyPost_ret (v := .tuple #[.int .i64 0, .int .i64 0, .int .i64 0, .bool false]) (by simp [results, Tryd.results65, go_sem]) rfl ⟨0, 0, 0, false, rfl, by simp [hbl], by simp, 0, rfl⟩
  · have hd0 : ((s.size : Int) == 0) = false := by rw [beq_eq_false_iff_ne]; omega
    go_enter Tryd.func65, Tryd.ntmps65
    go_wp2_with fail
    have HD := Lib.hid hd
    clear hd hd0
    go_loopw [4, 5, 6, 18] (fun pv qv iv jv wr => ∃ (k q0 : Nat) (z1 z2 : Int), k ≤ s.size ∧ jv = .int .i64 k ∧ qv = .int .i64 q0 ∧ pv = .int .i64 z1 ∧ iv = .int .i64 z2 ∧ q0 < A.n ∧ Hid (Tr A (fun _ => True) q0 (walkK ((bl s).take k) ks)) ∧ Hid (k = 0 ∨ walkK ((bl s).take k) ks ≠ []) ∧ Hid (∃ n, wr = w.drewN n)) (fun _ _ _ jv _ => s.size - (intOf jv).toNat)
    case atStart => exact ⟨0, 0, 0, 0, Nat.zero_le _, rfl, rfl, rfl, rfl, hpos, Lib.hid HT.out.tr, Lib.hid (.inl rfl), Lib.hid ⟨0, rfl⟩⟩
    case round =>
      obtain ⟨k, q0, z1, z2, hk, rfl, rfl, rfl, rfl, hq, HTR, HNE, HW⟩ := hrel
      by_cases hlt : k < s.size
      · obtain ⟨ch, hchv, hdrop, hch255⟩ := byte_at s hlt
        have hch1 : 1 ≤ ch := HCL.out ch (List.mem_of_mem_drop (by rw [hdrop]; exact List.mem_cons_self ..))
        have hchz : ((ch : Int) == 0) = false := by rw [beq_eq_false_iff_ne]; omega
        obtain ⟨B, hB, hB1⟩ := HTR.out.base
        obtain ⟨hs1, hs2⟩ := HTR.out.step hB hch1
        have htk : walkK ((bl s).take (k + 1)) ks = tails ch (walkK ((bl s).take k) ks) := by
          have hkl : k < (bl s).length := by rw [bl_length]; exact hlt
          have : (bl s).take (k + 1) = (bl s).take k ++ [ch] := by
            rw [List.take_succ_eq_append_getElem hkl]
            rw [List.drop_eq_getElem_cons hkl] at hdrop
            injection hdrop with h1 _
            rw [h1]
          rw [this, walkK_append]
          rfl
        have hbB := (HT.out.rb q0 hq).2
        rw [hB] at hbB
        obtain ⟨nx, hnx⟩ : ∃ nx, nx = B + ch := ⟨_, rfl⟩
        have hnz : (B : Int) + (ch : Int) = (nx : Int) := by omega
        have hnw : IntKind.i64.wrap (nx : Int) = nx := IntWalk.i64_in _ (by omega)
        obtain ⟨nn, hwn⟩ := HW.out
        have hv : wr.cell? ⟨dp, 0, none⟩ = some (.slice (some ⟨g, 0, none⟩) A.n A.n) := by rw [hwn]; exact HD.out
        have hcb : wr.cell? ⟨g, q0 * 2, none⟩ = some (.int .i32 (B : Int)) := by rw [hwn, ← hB]; exact (HT.out.drewN nn).cb hq
        rw [← hnx] at hs1 hs2
        have HTK := Lib.hid htk
        have HS1 := Lib.hid hs1
        have HS2 := Lib.hid hs2
        have HWN := Lib.hid hwn
        clear hdrop hB htk hnx hs1 hs2 hwn
        by_cases hnn : nx < A.n
        · obtain ⟨x, hx⟩ : ∃ x, x = A.c nx := ⟨_, rfl⟩
          have hcc : wr.cell? ⟨g, nx * 2 + 1, none⟩ = some (.int .i32 x) := by rw [HWN.out, hx]; exact (HT.out.drewN nn).cc hnn
          have hxr := HT.out.rc nx hnn
          rw [← hx] at hxr
          have hxr1 := hxr.1
          have hxr2 := hxr.2
          have hge : decide (A.n ≤ nx) = false := by simpa using hnn
          have HX := Lib.hid hx
          clear hx hxr
          by_cases hxq : x = (q0 : Int)
          · have hne : (x != (q0 : Int)) = false := by simp [hxq]
            have HXQ := Lib.hid hxq
            clear hxq
            have htl : tails ch (walkK ((bl s).take k) ks) ≠ [] := fun h => HS2.out h ⟨hnn, by rw [← HX.out]; exact HXQ.out⟩
            have HTL := Lib.hid htl
            clear htl
            go_wp2_with fail
            go_quiet (fail)
            go_wp2_with fail
            refine ⟨⟨k + 1, nx, (q0 : Int), (k : Int), by omega, by go_num, rfl, rfl, rfl, hnn, Lib.hid (by rw [HTK.out]; exact (HS1.out HTL.out).2.2), Lib.hid (.inr (by rw [HTK.out]; exact HTL.out)), Lib.hid ⟨nn + nq, by rw [HWN.out, World.drewN_drewN]⟩⟩, by simp [intOf]; omega⟩
          · have hne : (x != (q0 : Int)) = true := by rw [bne_iff_ne]; exact hxq
            have hno : walkK (bl s) ks = [] := by
              have h1 : tails ch (walkK ((bl s).take k) ks) = [] := Classical.byContradiction fun h => hxq (by rw [HX.out]; exact (HS1.out h).2.1)
              rw [← List.take_append_drop (k + 1) (bl s), walkK_append, HTK.out, h1, walkK_nil]
            have HNO := Lib.hid hno
            clear hxq hno
            go_wp2_with fail
            go_quiet (fail)
            go_wp2_with fail
            exact bodyPost_ret (v := .tuple #[.int .i64 q0, .int .i64 nx, .int .i64 k, .bool false]) (by simp [results, Tryd.results65, go_sem]) rfl ⟨_, _, _, false, rfl, by simp [HNO.out], by simp, nn + nq, by rw [HWN.out, World.drewN_drewN]⟩
        · have hge : decide (A.n ≤ nx) = true := by simpa using hnn
          have hno : walkK (bl s) ks = [] := by
            have h1 : tails ch (walkK ((bl s).take k) ks) = [] := Classical.byContradiction fun h => hnn (HS1.out h).1
            rw [← List.take_append_drop (k + 1) (bl s), walkK_append, HTK.out, h1, walkK_nil]
          have HNO := Lib.hid hno
          clear hnn hno
          go_wp2_with fail
          go_quiet (fail)
          go_wp2_with fail
          exact bodyPost_ret (v := .tuple #[.int .i64 q0, .int .i64 nx, .int .i64 k, .bool false]) (by simp [results, Tryd.results65, go_sem]) rfl ⟨_, _, _, false, rfl, by simp [HNO.out], by simp, nn + nq, by rw [HWN.out, World.drewN_drewN]⟩
      · obtain rfl : k = s.size := by omega
        go_wp2_with fail
        have hne : bl s ≠ [] := by
          intro h
          have := congrArg List.length h
          rw [bl_length] at this
          exact h0 (by simpa using this)
        have htr := HTR.out
        have hnw := HNE.out
        rw [List.take_of_length_le (by rw [bl_length]; exact Nat.le_refl _)] at htr hnw
        have hw' : walkK (bl s) ks ≠ [] := hnw.resolve_left h0
        exact bodyPost_ret (v := .tuple #[.int .i64 z1, .int .i64 q0, .int .i64 z2, .bool true]) (by simp [results, Tryd.results65, go_sem]) rfl ⟨_, _, _, true, rfl, by simp [hne, hw'], fun _ => ⟨q0, rfl, hq, htr⟩, HW.out⟩

theorem walk_id {ks : Ks} (h : ∀ x ∈ ks, 0 ≤ x.2) {s : List Nat} {id : Int} (hf : firstE (walkK s ks) = some id) : 0 ≤ id := h _ (mem_walkK.1 (firstE_some hf))
set_option maxHeartbeats 1000000 in
set_option maxRecDepth 100000 in
theorem find_any (g : Nat) (A : DA) (ks : Ks) (s : ByteArray) (w : World) (ht : Trie g A ks w) (hid : ∀ x ∈ ks, 0 ≤ x.2) (hcl : ∀ a ∈ bl s, 1 ≤ a) (hs : s.size ≤ 2147483647) :
    Calls Tryd.prog 42 #[.slice (some ⟨g, 0, none⟩) A.n A.n, .string s] w fun e w' => e = .returned (.tuple #[.int .i64 (findF ks (bl s)).1, .bool (findF ks (bl s)).2]) ∧ Below w.heap.size w w' := by
  obtain ⟨w1, hw1⟩ : ∃ w1, w1 = w.alloc (.cells #[.slice (some ⟨g, 0, none⟩) A.n A.n] tDA) := ⟨_, rfl⟩
  have hc1 : w1.cell? ⟨w.heap.size, 0, none⟩ = some (.slice (some ⟨g, 0, none⟩) A.n A.n) := by rw [hw1]; exact cell_new0 _ _ _
  have hb1 : Below w.heap.size w w1 := by rw [hw1]; exact (Below.refl _ _).alloc (Nat.le_refl _) _
  have HT := Lib.hid (ht.below hb1)
  have HID := Lib.hid hid
  have HB := Lib.hid hb1
  have hn := ht.n
  have HSE := Lib.hid (search_any w.heap.size g A ks s w1 hc1 HT.out hcl hs)
  clear ht hid hcl hb1
  go_enter Tryd.func42, Tryd.ntmps42
  go_wp2_with fail
  rw [← hw1]
  have HW1 := Lib.hid hw1
  clear hw1
  refine HSE.out.mono ?_
  rintro e w2 ⟨p, q, i, ok, rfl, hok, hq, n, rfl⟩
  have hc2 : (w1.drewN n).cell? ⟨w.heap.size, 0, none⟩ = some (.slice (some ⟨g, 0, none⟩) A.n A.n) := hc1
  have HT2 := Lib.hid (HT.out.drewN n)
  have HB2 := Lib.hid (pw_below_drewN HB.out n)
  clear hc1 HSE
  generalize w1.drewN n = w2 at hc2 HT2 HB2 ⊢
  cases ok with
  | false =>
    have hf : findF ks (bl s) = (0, false) := by
      unfold findF
      by_cases h1 : bl s = []
      · rw [if_pos h1]
      · rw [if_neg h1]
        by_cases h2 : walkK (bl s) ks = []
        · rw [if_pos h2]
        · exact absurd (hok.2 ⟨h1, h2⟩) (by simp)
    have HF := Lib.hid hf
    clear hf hok hq
    go_wp2_with fail
    go_ret2
    rw [HF.out]
    exact ⟨rfl, HB2.out⟩
  | true =>
    obtain ⟨q0, rfl, hq0, htr⟩ := hq rfl
    obtain ⟨h1, h2⟩ := hok.1 rfl
    have hf : findF ks (bl s) = ((firstE (walkK (bl s) ks)).getD 0, true) := by rw [findF, if_neg h1, if_neg h2]
    obtain ⟨B, hB, hB1⟩ := htr.base
    obtain ⟨hs1, hs2⟩ := htr.stop hB
    have hcb : w2.cell? ⟨g, q0 * 2, none⟩ = some (.int .i32 (B : Int)) := by rw [← hB]; exact HT2.out.cb hq0
    have hbB := (HT2.out.rb q0 hq0).2
    rw [hB] at hbB
    have HF := Lib.hid hf
    have HS1 := Lib.hid hs1
    have HS2 := Lib.hid hs2
    clear hok hq htr h1 h2 hf hB hs1 hs2
    by_cases hnn : B < A.n
    · obtain ⟨x, hx⟩ : ∃ x, x = A.c B := ⟨_, rfl⟩
      obtain ⟨y, hy⟩ : ∃ y, y = A.b B := ⟨_, rfl⟩
      have hcc : w2.cell? ⟨g, B * 2 + 1, none⟩ = some (.int .i32 x) := by rw [hx]; exact HT2.out.cc hnn
      have hcy : w2.cell? ⟨g, B * 2, none⟩ = some (.int .i32 y) := by rw [hy]; exact HT2.out.cb hnn
      have hxr := HT2.out.rc B hnn
      have hyr := HT2.out.rb B hnn
      rw [← hx] at hxr
      rw [← hy] at hyr
      have hxr1 := hxr.1
      have hxr2 := hxr.2
      have hyr1 := hyr.1
      have hyr2 := hyr.2
      have hge : decide (A.n ≤ B) = false := by simpa using hnn
      have HX := Lib.hid hx
      have HY := Lib.hid hy
      clear hx hy hxr hyr
      by_cases hxq : x = (q0 : Int)
      · have hne : (x != (q0 : Int)) = false := by simp [hxq]
        cases hfe : firstE (walkK (bl s) ks) with
        | none => exact absurd ⟨hnn, by rw [← HX.out]; exact hxq⟩ (HS2.out hfe)
        | some id =>
          have hid0 := walk_id HID.out hfe
          have hyid : y = -id := by rw [HY.out]; exact (HS1.out id hfe).2.2
          have hy0 : decide (0 < y) = false := by rw [decide_eq_false_iff_not]; omega
          have HFE := Lib.hid hfe
          have HYI := Lib.hid hyid
          clear hfe hyid hxq
          go_wp2_with fail
          go_ret2
          rw [HF.out, HFE.out]
          exact ⟨by have := HYI.out; simp; omega, HB2.out⟩
      · have hne : (x != (q0 : Int)) = true := by rw [bne_iff_ne]; exact hxq
        cases hfe : firstE (walkK (bl s) ks) with
        | some id => exact absurd (by rw [HX.out]; exact (HS1.out id hfe).2.1) hxq
        | none =>
          have HFE := Lib.hid hfe
          clear hfe hxq
          go_wp2_with fail
          go_ret2
          rw [HF.out, HFE.out]
          exact ⟨rfl, HB2.out⟩
    · have hge : decide (A.n ≤ B) = true := by simpa using hnn
      cases hfe : firstE (walkK (bl s) ks) with
      | some id => exact absurd (HS1.out id hfe).1 hnn
      | none =>
        have HFE := Lib.hid hfe
        clear hfe hnn
        go_wp2_with fail
        go_ret2
        rw [HF.out, HFE.out]
        exact ⟨rfl, HB2.out⟩
end Go.Proofs.YtjifoimkjgepcaaDoor.Da
