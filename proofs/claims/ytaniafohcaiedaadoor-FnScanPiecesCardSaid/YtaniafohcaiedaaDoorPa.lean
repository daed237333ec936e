/-
  The walks of slices.Clone[[]byte] and impl.Scan.
-/
import Derived.Test.YtaniafohcaiedaaDoorTy
import Derived.Test.YtaniafohcaiedaaDoorSf
import Derived.Test.YtaniafohcaiedaaDoorSi
set_option linter.unusedVariables false
set_option linter.unusedSimpArgs false
namespace Go.Proofs.YtaniafohcaiedaaDoor.Sn
open Go.RowKit Go.Proofs.YtaniafohcaiedaaDoor.K Go.Proofs.YtaniafohcaiedaaDoorW.PrintWords

set_option maxHeartbeats 400000 in
theorem clone_bytes (A : Option Addr) (c : Nat) (xs : List Int) (w : World) (hC : (Kd.int .u8).C w A xs.length xs) (hb : xs.length ≤ 2147483647) :
    Calls Tryd.prog 57 #[.slice A xs.length c] w (RetRow (Kd.int .u8) 5 xs w) := by
  have q := fun (w : World) (a : Option Addr) (n c n' c' : Nat) => Lib.run_eql_slice_nil (P := Tryd.prog) w _ _ a n c n' c' Tryd.underlying25
  have HC := Lib.hid hC
  clear hC
  rcases A with _ | ad
  · have h0 : xs = [] := by
      cases xs with
      | nil => rfl
      | cons x r => obtain ⟨ad, h, _⟩ := HC.out.2.2 (by simp); cases h
    subst h0
    go_enter Tryd.func57, Tryd.ntmps57
    go_wp2
    go_ret
    exact ⟨_, rfl, Kd.R_nil _ _ _ _ _, Below.refl _ _⟩
  · go_enter Tryd.func57, Tryd.ntmps57
    go_wp2_with (at_builtin; refine Kd.R_append_rows (Kd.int .u8) (Rr := (Kd.int .u8).K (w.alloc (.cells #[] 5))) (w0 := w) w.heap.size rfl _ _ 25 5 (.int .u8 0) 1 rfl Tryd.underlying25 (by kernel_rfl) rfl (by decide) (by decide) (.slice (some ⟨w.heap.size, 0, none⟩) 0 0) [] xs (some ad) xs.length c (fun _ => True) (fun _ => False) rfl rfl (R_empty _ _ _ _ (Nat.le_refl _)) (Kd.C_alloc HC.out _) (fun _ _ h => h) (fun _ h => h.elim) (fun _ _ => trivial) ((Below.refl _ _).alloc (Nat.le_refl _) _) (by simp) (by simp; omega) ?_)
    intro v1 w1 hR hB hg hat
    go_wp2
    go_ret
    exact ⟨v1, rfl, hR, hB⟩

/-- A row of one's own that is not empty lies at a block's head. -/
theorem R_head {α : Type} {d : Kd α} {e base : Nat} {ok : Nat → Prop} {w : World} {v : Value} {xs : List α} (h : d.R e w base ok v xs) (hn : 0 < xs.length) : ∃ g c, v = .slice (some ⟨g, 0, none⟩) xs.length c ∧ xs.length ≤ c ∧ c ≤ 9223372036854775807 := by
  obtain ⟨A, c, rfl, hc, hC⟩ := Kd.R_reads h
  obtain ⟨h0, inner, ho, hr⟩ := h
  rcases ho.2 with ⟨he, _⟩ | ⟨g, cap, cur, he, _, _, _, hcm, _⟩
  · injection he with h1 h2 h3
    omega
  · injection he with h1 h2 h3
    exact ⟨g, c, by rw [h1], hc, by rw [h3]; exact hcm⟩
def ScanOut (T : ByteArray) (p : Nat) (b : Bool) (w : World) (e : Ending) (w' : World) : Prop :=
  ∃ bv, Below w.heap.size w w' ∧ if b then ∃ A c, e = .returned (.tuple #[.int .i64 p, .slice A p c, .bool true, bv]) ∧ (Kd.int .u8).C w' A p ((bytesOf T).take p) else e = .returned (.tuple #[.int .i64 0, .slice none 0 0, .bool false, bv])

set_option maxHeartbeats 2000000 in
set_option maxRecDepth 5000 in
theorem scan_any (D F : Option Addr) (cd cf : Nat) (most : Int) (dl fl : List Int) (T : ByteArray) (A : Option Addr) (c : Nat) (eof : Bool) (p : Nat) (f : Bool) (w : World) (hD : (Kd.int .i32).C w D dl.length dl) (hF : (Kd.int .i32).C w F fl.length fl) (hdl : dl.length ≤ 2147483647) (hfl : fl.length ≤ 2147483647)
    (hT : Lib.Utf8Tabs 1 2 w) (hC : (Kd.int .u8).C w A T.size (bytesOf T)) (h0 : 0 < T.size) (hz : T.size ≤ 2147483647) (hg : g1 dl fl most (decT T.data.toList) T.size 0 0 = (p, f)) (hp : p ≤ T.size) (hp0 : 0 < p) :
    Calls Tryd.prog 31 #[splV D F dl.length cd fl.length cf false false most, .slice A T.size c, .bool eof] w (ScanOut T p (f || eof) w) := by
  have HD := Lib.hid hD
  have HF := Lib.hid hF
  have HT := Lib.hid hT
  have hbl := bytesOf_length T
  have HC := Lib.hid hC
  have HG := Lib.hid hg
  clear hD hF hT hC hg
  have qn := fun (w : World) (a : Option Addr) (n c : Nat) => run_neq_slice_nil (P := Tryd.prog) w 25 5 a n c Tryd.underlying25
  obtain ⟨B, hB⟩ : ∃ B, (f || eof) = B := ⟨_, rfl⟩
  rw [hB]
  show Calls _ _ #[.agg #[.slice D dl.length cd, .slice F fl.length cf, .bool false, .bool false, .int .i64 most], .slice A T.size c, .bool eof] w _
  go_enter Tryd.func31, Tryd.ntmps31
  go_wp2_with fail
  have hg0 := heap_new w (.cells #[.slice D dl.length cd, .slice F fl.length cf, .bool false, .bool false, .int .i64 most] 50)
  have hbw : Below w.heap.size w (w.alloc (.cells #[.slice D dl.length cd, .slice F fl.length cf, .bool false, .bool false, .int .i64 most] 50)) := below_alloc (Below.refl _ _) _
  generalize w.alloc (.cells #[.slice D dl.length cd, .slice F fl.length cf, .bool false, .bool false, .int .i64 most] 50) = wa at hg0 hbw ⊢
  have hwa := hbw.size
  have hcl := clone_bytes A c (bytesOf T) wa (Kd.C_below (by rw [hbl]; exact HC.out) hbw) (by rw [hbl]; exact hz)
  rw [hbl] at hcl
  refine hcl.mono ?_
  rintro e w1 ⟨v, rfl, hR, hb1⟩
  obtain ⟨g, C, rfl, hCC, hCm⟩ := R_head hR (by rw [hbl]; exact h0)
  obtain ⟨_, _, hC1⟩ := Kd.R_reads' hR
  rw [hbl] at hCC hC1 ⊢
  have HL1 := Lib.hid (hbw.trans (hb1.mono hwa))
  have hw1 := HL1.out.size
  obtain ⟨c0, c1, c2, c3, c4⟩ := cells5 (blk_keep hg0 hb1)
  have HC1 := Lib.hid hC1
  have hcell : ∀ j, j < T.size → w1.cell? ⟨g, j, none⟩ = some (.int .u8 (bt T j)) := by
    intro j hj
    obtain ⟨ad, he, hc⟩ := runes_at (show (Kd.int .u8).C w1 (some ⟨g, 0, none⟩) (bytesOf T).length (bytesOf T) by rw [hbl]; exact hC1) j (by rw [hbl]; exact hj)
    cases he
    rw [add_plain', Nat.zero_add] at hc
    rw [hc]
    have h4 := rd_bytesOf T ((j : Nat) : Int)
    unfold rd at h4
    rw [Int.toNat_natCast] at h4
    rw [← h4]
    simp [List.getD, List.getElem?_eq_getElem (show j < (bytesOf T).length by omega)]
  have HCE := Lib.hid hcell
  clear hR hcl hb1 hC1 hcell hg0
  go_wp2_with fail
  refine (splitterOf_any D F cd cf false false most dl fl w1 (Kd.C_below HD.out HL1.out) (Kd.C_below HF.out HL1.out) hdl hfl).mono ?_
  rintro e w2 ⟨D', F', cd', cf', rfl, hD', hF', hb2⟩
  have HL2 := Lib.hid (HL1.out.trans (hb2.mono hw1))
  have hw2 := HL2.out.size
  have hce2 : ∀ j, j < T.size → w2.cell? ⟨g, j, none⟩ = some (.int .u8 (bt T j)) := fun j hj => (hb2.cell (World.block_lt_of_cell? _ _ (HCE.out j hj))).trans (HCE.out j hj)
  have hdec : Decodes w2 ⟨g, 0, none⟩ T.size C (decT T.data.toList) := by
    intro q hq
    obtain ⟨h1, h2, h3⟩ := utf8_decodes (C := C) (tabs_keep HT.out HL2.out) hce2 q hq
    refine ⟨h1, h2, fun W hW => ?_⟩
    have := h3 W hW
    rw [add_plain', Nat.zero_add]
    exact this
  have HCE2 := Lib.hid hce2
  have hsc : Calls Tryd.prog 54 #[splV D' F' dl.length cd' fl.length cf' false false most, .slice (some ⟨g, 0, none⟩) T.size C, .bool eof] w2 (ScanRet ⟨g, 0, none⟩ C eof (g1 dl fl most (decT T.data.toList) T.size 0 0) w2) := by
    cases eof
    · exact scan_false D' F' cd' cf' most dl fl ⟨g, 0, none⟩ T.size C _ w2 hD' hF' h0 hCC hCm hdec
    · exact scan_true D' F' cd' cf' most dl fl ⟨g, 0, none⟩ T.size C _ w2 hD' hF' h0 hCC hCm hdec
  rw [HG.out] at hsc
  unfold ScanRet at hsc
  simp only [hB] at hsc
  have HSC := Lib.hid hsc
  clear hsc hdec hce2 hb2 hD' hF' c0 c1 c2 c3 c4
  unfold splV
  cases B
  · simp only [Bool.false_eq_true, if_false] at HSC
    go_wp2_with fail
    refine HSC.out.mono ?_
    rintro e w3 ⟨rfl, hb3⟩
    have HL3 := Lib.hid (HL2.out.trans (hb3.mono hw2))
    clear hb3
    go_wp2_with fail
    refine (clone_none _).mono ?_
    rintro e w4 ⟨rfl, rfl⟩
    go_wp2_with fail
    exact bodyPost_ret (v := .tuple #[.int .i64 0, .slice none 0 0, .bool false, _]) (by simp [results, Tryd.results31, go_sem]; rfl) rfl ⟨_, HL3.out, rfl⟩
  · simp only [if_true] at HSC
    go_wp2_with fail
    refine HSC.out.mono ?_
    rintro e w3 ⟨rfl, hb3⟩
    have HL3 := Lib.hid (HL2.out.trans (hb3.mono hw2))
    have hw3 := HL3.out.size
    have hC3 := bytes_C (s := T) (N := T.size) (off := 0) (e := p) (Below.refl _ w3) (fun j hj => (hb3.cell (World.block_lt_of_cell? _ _ (HCE2.out j hj))).trans (HCE2.out j hj)) rfl (by omega) (by omega)
    rw [List.drop_zero] at hC3
    have hpl : ((bytesOf T).take p).length = p := by rw [List.length_take]; omega
    have hcl := clone_bytes (some ⟨g, 0, none⟩) C ((bytesOf T).take p) w3 (by rw [hpl]; exact hC3) (by omega)
    rw [hpl] at hcl
    have HCL := Lib.hid hcl
    clear hb3 hC3 hcl
    go_wp2_with fail
    refine HCL.out.mono ?_
    rintro e w4 ⟨v, rfl, hR, hb4⟩
    obtain ⟨A4, c4, rfl, _, hC4⟩ := Kd.R_reads hR
    rw [hpl] at hC4 ⊢
    have HC4 := Lib.hid hC4
    have HL4 := Lib.hid (HL3.out.trans (hb4.mono hw3))
    clear hR hC4 hb4
    go_wp2_with fail
    exact bodyPost_ret (v := .tuple #[.int .i64 p, .slice A4 p c4, .bool true, _]) (by simp [results, Tryd.results31, go_sem]; rfl) rfl ⟨_, HL4.out, _, _, rfl, HC4.out⟩
end Go.Proofs.YtaniafohcaiedaaDoor.Sn
