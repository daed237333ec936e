/-
  The walks of laws.index and laws.indexes.
-/
import Derived.Test.YtjifoimkjgepcaaVh
set_option linter.unusedVariables false
set_option linter.unusedSimpArgs false
namespace Go.Proofs.Ytjifoimkjgepcaa.Da
open Go.RowKit Go.ChangeShapes Go.Proofs.Ytjifoimkjgepcaa.K Go.Proofs.YtjifoimkjgepcaaW.PrintWords Go.Maps

/-- The cells of an answer in a row of the call's own, and its lists. -/
theorem ianR_at {w : World} {base : Nat} {v : Value} {xs : List IAns} (h : kIAns.R tIAns w base (fun _ => True) v xs) : ∃ A c, v = .slice A xs.length c ∧ ∀ j (hj : j < xs.length), ∃ ad, A = some ad ∧ ∃ A0 c0 A1 c1 A2 c2 A3 c3,
    w.cell? (ad.add (j * 4)) = some (.slice A0 xs[j].1.length c0) ∧ w.cell? ⟨(ad.add (j * 4)).block, (ad.add (j * 4)).off + 1, none⟩ = some (.slice A1 xs[j].2.1.length c1) ∧
    w.cell? ⟨(ad.add (j * 4)).block, (ad.add (j * 4)).off + 2, none⟩ = some (.slice A2 xs[j].2.2.1.length c2) ∧ w.cell? ⟨(ad.add (j * 4)).block, (ad.add (j * 4)).off + 3, none⟩ = some (.slice A3 xs[j].2.2.2.length c3) ∧
    (Kd.int .i64).R tInt w base (fun k => base ≤ k) (.slice A0 xs[j].1.length c0) xs[j].1 ∧ (Kd.int .i64).R tInt w base (fun k => base ≤ k) (.slice A1 xs[j].2.1.length c1) xs[j].2.1 ∧
    kRows.R tSl w base (fun k => base ≤ k) (.slice A2 xs[j].2.2.1.length c2) xs[j].2.2.1 ∧ kHit.R tHit w base (fun k => base ≤ k) (.slice A3 xs[j].2.2.2.length c3) xs[j].2.2.2 := by
  obtain ⟨A, c, he, hl, hr⟩ := OwnRow.reads (Kd.R_mono (Kd.R_bound h) (ok' := fun k => base ≤ k) (fun k hk => hk.2.1)).2
  refine ⟨A, c, he, fun j hj => ?_⟩
  obtain ⟨ad, hA, hc⟩ := hr.2.2 (by omega)
  obtain ⟨c, hl, hk, hcell⟩ := hc j xs[j] (List.getElem?_eq_getElem hj)
  generalize xs[j] = x at hk ⊢
  obtain ⟨p0, q0, rfl, ⟨v0, hp0, hR0⟩, p1, q1, rfl, ⟨v1, hp1, hR1⟩, p2, q2, rfl, ⟨v2, hp2, hR2⟩, ⟨v3, hp3, hR3⟩⟩ := hk
  obtain ⟨A0, c0, rfl⟩ := Kd.R_slice hR0
  obtain ⟨A1, c1, rfl⟩ := Kd.R_slice hR1
  obtain ⟨A2, c2, rfl⟩ := Kd.R_slice hR2
  obtain ⟨A3, c3, rfl⟩ := Kd.R_slice hR3
  subst hp0 hp1 hp2 hp3
  have e : kIAns.sz = 4 := rfl
  rw [e] at hcell
  have h0 := hcell 0 _ rfl
  have h1 := hcell 1 _ rfl
  have h2 := hcell 2 _ rfl
  have h3 := hcell 3 _ rfl
  rw [Nat.add_zero] at h0
  rw [add_field _ _ _ (by decide)] at h1 h2 h3
  exact ⟨ad, hA, A0, c0, A1, c1, A2, c2, A3, c3, h0, h1, h2, h3, Kd.R_mono hR0 (fun k hk => hk.1), Kd.R_mono hR1 (fun k hk => hk.1), Kd.R_mono hR2 (fun k hk => hk.1), Kd.R_mono hR3 (fun k hk => hk.1)⟩
def set4 (w : World) (b : Nat) (a0 a1 a2 a3 : Value) : World := (((w.setCell ⟨b, 0, none⟩ a0).setCell ⟨b, 1, none⟩ a1).setCell ⟨b, 2, none⟩ a2).setCell ⟨b, 3, none⟩ a3
theorem set4_at {b : Nat} {u0 u1 u2 u3 a0 a1 a2 a3 : Value} {w : World} (h : IAt b u0 u1 u2 u3 w) : IAt b a0 a1 a2 a3 (set4 w b a0 a1 a2 a3) := by
  unfold IAt set4
  rw [heap_set (heap_set (heap_set (heap_set h 0 a0) 1 a1) 2 a2) 3 a3]
  rfl
theorem set4_R {α : Type} {d : Kd α} {e : Nat} {w : World} {base b : Nat} {v : Value} {xs : List α} (h : d.R e w base (fun k => base ≤ k) v xs) (hb : b < base) (a0 a1 a2 a3 : Value) : d.R e (set4 w b a0 a1 a2 a3) base (fun k => base ≤ k) v xs := by
  have hne : ∀ j k : Nat, base ≤ k → k ≠ (⟨b, j, none⟩ : Addr).block := fun j k hk => by show k ≠ b; omega
  exact Kd.R_far (Kd.R_far (Kd.R_far (Kd.R_far h (hne 0) _) (hne 1) _) (hne 2) _) (hne 3) _
theorem set4_below {w0 w : World} {b : Nat} (h : Below w0.heap.size w0 w) (hb : w0.heap.size ≤ b) (a0 a1 a2 a3 : Value) : Below w0.heap.size w0 (set4 w b a0 a1 a2 a3) :=
  (((h.setCell hb _).setCell hb _).setCell hb _).setCell hb _
/-- What laws.index returns. -/
def IndexRet (a : IAns) (w : World) (e : Ending) (w' : World) : Prop :=
  ∃ A0 c0 A1 c1 A2 c2 A3 c3, e = .returned (.tuple #[.agg #[.slice A0 a.1.length c0, .slice A1 a.2.1.length c1, .slice A2 a.2.2.1.length c2, .slice A3 a.2.2.2.length c3], .bool true]) ∧
    (Kd.int .i64).C w' A1 a.2.1.length a.2.1 ∧ kRows.C w' A2 a.2.2.1.length a.2.2.1 ∧ Below w.heap.size w w'
theorem askedI_one {s : ByteArray} (hz : noZ s) (hs : s.size ≤ 10000000) : AskedI [s] := ⟨by simp, fun x hx => by rw [List.mem_singleton.1 hx]; exact ⟨hz, hs⟩⟩
set_option maxHeartbeats 1000000 in
set_option maxRecDepth 100000 in
theorem lawIndex_any (Ak : Option Addr) (ck : Nat) (ws : List ByteArray) (s : ByteArray) (w : World) (ho : Ord ws false) (hkC : Kd.string.C w Ak ws.length ws) (hl : ws.length ≤ 100000) (hsm : sumL (ixOf ws).K ≤ 4000)
    (hz : noZ s) (hs : s.size ≤ 10000000) :
    Calls Try.prog 31 #[.slice Ak ws.length ck, .string s] w (IndexRet (ansI (ixOf ws) s) w) := by
  have HO := Lib.hid ho
  have HKC := Lib.hid hkC
  have HSM := Lib.hid hsm
  have HZ := Lib.hid (askedI_one hz hs)
  clear ho hkC hsm hz hs
  go_enter Try.func31, Try.ntmps31
  go_wp2_with fail
  obtain ⟨W2, hW2⟩ : ∃ W2, W2 = ((w.alloc (.cells #[.slice none 0 0, .slice none 0 0, .slice none 0 0, .slice none 0 0] tIAns)).alloc (.cells #[.string s] 9)) := ⟨_, rfl⟩
  have HB2 : Hid (Below w.heap.size w W2) := Lib.hid (by rw [hW2]; exact ((Below.refl _ _).alloc (Nat.le_refl _) _).alloc (by simp) _)
  have hn2 : Kd.string.C W2 (some ⟨w.heap.size + 1, 0, none⟩) [s].length [s] := by
    rw [hW2]
    have := strs_new (w.alloc (.cells #[.slice none 0 0, .slice none 0 0, .slice none 0 0, .slice none 0 0] tIAns)) s
    simpa using this
  have hr2 : IAt w.heap.size (.slice none 0 0) (.slice none 0 0) (.slice none 0 0) (.slice none 0 0) W2 := by
    rw [hW2]
    exact heap_old (heap_new w _) _
  have hs2 : w.heap.size < W2.heap.size := by rw [hW2]; simp; omega
  rw [← hW2]
  clear hW2
  obtain ⟨rb, hrb⟩ : ∃ rb, rb = w.heap.size := ⟨_, rfl⟩
  obtain ⟨ib, hib⟩ : ∃ ib, ib = w.heap.size + 1 := ⟨_, rfl⟩
  rw [← hib] at hn2 ⊢
  rw [← hrb] at hr2 hs2 ⊢
  have HRB := Lib.hid hrb
  have HN2 := Lib.hid hn2
  have HR2 := Lib.hid hr2
  clear hrb hib hn2 hr2
  refine (index_any Ak (some ⟨ib, 0, none⟩) ck 1 ws [s] W2 HO.out (Kd.C_below HKC.out HB2.out) hl HSM.out HN2.out HZ.out).mono ?_
  rintro e w3 ⟨v, rfl, hr, hb⟩
  obtain ⟨A, c, rfl, hat⟩ := ianR_at hr
  have HB3 := Lib.hid (HB2.out.trans (hb.mono HB2.out.size))
  have hr3 : IAt rb (.slice none 0 0) (.slice none 0 0) (.slice none 0 0) (.slice none 0 0) w3 := (hb.block _ hs2).trans HR2.out
  obtain ⟨ad, rfl, A0, c0, A1, c1, A2, c2, A3, c3, h0, h1, h2, h3, hR0, hR1, hR2, hR3⟩ := hat 0 (by simp)
  have hz : (0 * 4 : Nat) = 0 := rfl
  rw [hz] at h0 h1 h2 h3
  simp only [List.map_cons, List.getElem_cons_zero] at h0 h1 h2 h3 hR0 hR1 hR2 hR3
  obtain ⟨a, ha⟩ : ∃ a, ansI (ixOf ws) s = a := ⟨_, rfl⟩
  rw [ha] at h0 h1 h2 h3 hR0 hR1 hR2 hR3
  have HA := Lib.hid ha
  clear ha
  have he : ad.add 0 = ad := by cases ad; simp [Addr.add]
  rw [he] at h0 h1 h2 h3
  have hll : (List.map (ansI (ixOf ws)) [s]).length = 1 := rfl
  rw [hll]
  obtain ⟨g0, g1, g2, g3⟩ := hr3.c
  have gf := hr3.f
  have HR3 := Lib.hid hr3
  have HH1 := Lib.hid hR1
  have HH2 := Lib.hid hR2
  clear hr hb hr3 hR0 hR1 hR2 hR3 hll hat
  go_wp2_with fail
  have HF := Lib.hid (set4_at HR3.out (a0 := .slice A0 a.1.length c0) (a1 := .slice A1 a.2.1.length c1) (a2 := .slice A2 a.2.2.1.length c2) (a3 := .slice A3 a.2.2.2.length c3))
  have HG1 := Lib.hid (set4_R HH1.out hs2 (.slice A0 a.1.length c0) (.slice A1 a.2.1.length c1) (.slice A2 a.2.2.1.length c2) (.slice A3 a.2.2.2.length c3))
  have HG2 := Lib.hid (set4_R HH2.out hs2 (.slice A0 a.1.length c0) (.slice A1 a.2.1.length c1) (.slice A2 a.2.2.1.length c2) (.slice A3 a.2.2.2.length c3))
  have HBF := Lib.hid (set4_below HB3.out (Nat.le_of_eq HRB.out.symm) (.slice A0 a.1.length c0) (.slice A1 a.2.1.length c1) (.slice A2 a.2.2.1.length c2) (.slice A3 a.2.2.2.length c3))
  clear g0 g1 g2 g3 gf h0 h1 h2 h3
  unfold set4 at HF HG1 HG2 HBF
  revert HF HG1 HG2 HBF
  generalize World.setCell _ _ _ = w4
  intro HF HG1 HG2 HBF
  obtain ⟨g0, g1, g2, g3⟩ := HF.out.c
  go_wp2_with fail
  refine bodyPost_ret (v := .tuple #[.agg #[.slice A0 a.1.length c0, .slice A1 a.2.1.length c1, .slice A2 a.2.2.1.length c2, .slice A3 a.2.2.2.length c3], .bool true]) (by simp [results, Try.results31, go_sem, g0, g1, g2, g3]) rfl ?_
  rw [HA.out]
  exact ⟨A0, c0, A1, c1, A2, c2, A3, c3, by first | rfl | (simp; done), (Kd.R_reads' HG1.out).2.2, (Kd.R_reads' HG2.out).2.2, HBF.out⟩

def xKeys : List ByteArray := [⟨#[97]⟩, ⟨#[97]⟩]
def xIn : List ByteArray := [⟨#[97]⟩]
theorem x_ord : Ord xKeys false := by
  refine ⟨by decide, fun i hi => ?_⟩
  have hi' : i < 2 := hi
  obtain rfl | rfl : i = 0 ∨ i = 1 := by omega
  · exact ⟨by simp [xKeys, kAt, ByteArray.toList_eq], by intro a ha; simp [xKeys, kAt, bl] at ha; omega, by omega⟩
  · exact ⟨by simp [xKeys, kAt, ByteArray.toList_eq], by intro a ha; simp [xKeys, kAt, bl] at ha; omega, fun _ => ⟨ltB_self _, fun h => by cases h⟩⟩
theorem x_asked : AskedI xIn := by
  refine askedI_one ?_ (by decide)
  intro a ha
  simp [bl] at ha
  omega
def xAns : IAns := ([0, 1], [1], [[0, 1]], [(0, 1), (1, 1)])
theorem x_ans : (List.map (ansI (ixOf xKeys)) xIn)[0] = xAns := by rfl
theorem x_laid (w : World) : Kd.string.C ((w.alloc (.cells #[.string ⟨#[97]⟩, .string ⟨#[97]⟩] tStr)).alloc (.cells #[.string ⟨#[97]⟩] tStr)) (some ⟨w.heap.size, 0, none⟩) xKeys.length xKeys ∧ Kd.string.C ((w.alloc (.cells #[.string ⟨#[97]⟩, .string ⟨#[97]⟩] tStr)).alloc (.cells #[.string ⟨#[97]⟩] tStr)) (some ⟨w.heap.size + 1, 0, none⟩) xIn.length xIn := by
  refine ⟨C_of_block (cs := [.string ⟨#[97]⟩, .string ⟨#[97]⟩]) (heap_old (heap_new w _) _) (reps_strs _ xKeys) (by decide), ?_⟩
  have := heap_new (w.alloc (.cells #[.string ⟨#[97]⟩, .string ⟨#[97]⟩] tStr)) (.cells #[.string ⟨#[97]⟩] tStr)
  rw [size_alloc] at this
  exact C_of_block (cs := [.string ⟨#[97]⟩]) this (reps_strs _ xIn) (by decide)
theorem ints_new (w : World) (xs : List Int) (hl : xs.length ≤ 9223372036854775807) : (Kd.int .i64).C (w.alloc (.cells (xs.map (Value.int .i64)).toArray tInt)) (some ⟨w.heap.size, 0, none⟩) xs.length xs := C_of_block (heap_new w _) (reps_ints _ _ xs) hl
set_option maxHeartbeats 1000000 in
set_option maxRecDepth 100000 in
theorem indexes_any (w : World) : Calls Try.prog 30 #[] w fun e w' => e = .returned (.bool true) ∧ Below w.heap.size w w' := by
  go_enter Try.func30, Try.ntmps30
  go_wp2_with fail
  obtain ⟨W2, hW2⟩ : ∃ W2, W2 = (w.alloc (.cells #[.string ⟨#[97]⟩, .string ⟨#[97]⟩] tStr)).alloc (.cells #[.string ⟨#[97]⟩] tStr) := ⟨_, rfl⟩
  obtain ⟨hK, hN⟩ := x_laid w
  have hB : Below w.heap.size w W2 := by rw [hW2]; exact ((Below.refl _ _).alloc (Nat.le_refl _) _).alloc (by simp) _
  rw [← hW2] at hK hN
  rw [← hW2]
  clear hW2
  obtain ⟨kb, hkb⟩ : ∃ kb, kb = w.heap.size := ⟨_, rfl⟩
  obtain ⟨nb, hnb⟩ : ∃ nb, nb = w.heap.size + 1 := ⟨_, rfl⟩
  rw [← hnb] at hN ⊢
  rw [← hkb] at hK ⊢
  have HB := Lib.hid hB
  clear hB hkb hnb
  refine (index_any (some ⟨kb, 0, none⟩) (some ⟨nb, 0, none⟩) 2 1 xKeys xIn W2 x_ord hK (by decide) (by decide) hN x_asked).mono ?_
  rintro e w3 ⟨v, rfl, hr, hb⟩
  obtain ⟨A, c, rfl, hat⟩ := ianR_at hr
  have HB3 := Lib.hid (HB.out.trans (hb.mono HB.out.size))
  obtain ⟨ad, rfl, A0, c0, A1, c1, A2, c2, A3, c3, h0, h1, h2, h3, hR0, hR1, hR2, hR3⟩ := hat 0 (by decide)
  have hz : (0 * 4 : Nat) = 0 := rfl
  have he : ad.add 0 = ad := by cases ad; simp [Addr.add]
  rw [hz, he] at h0 h1 h2 h3
  rw [x_ans] at h0 h1 h2 h3 hR0 hR1 hR2 hR3
  have hll : (List.map (ansI (ixOf xKeys)) xIn).length = 1 := rfl
  rw [hll]
  have HC0 := Lib.hid (Kd.R_reads' hR0).2.2
  have HC1 := Lib.hid (Kd.R_reads' hR1).2.2
  have l0 : xAns.1.length = 2 := rfl
  have l1 : xAns.2.1.length = 1 := rfl
  rw [l0] at h0
  rw [l1] at h1
  clear hr hb hat hR0 hR1 hR2 hR3 hll hK hN h2 h3
  go_wp2_with fail
  have hD := ints_new w3 [0, 1] (by decide)
  have HBa := Lib.hid (HB3.out.alloc HB3.out.size (.cells #[.int .i64 0, .int .i64 1] tInt))
  refine (sameInt_any A0 (some ⟨w3.heap.size, 0, none⟩) c0 2 [0, 1] [0, 1] _ (Kd.C_alloc HC0.out _) hD).mono ?_
  rintro e w4 ⟨rfl, hb⟩
  have HB4 := Lib.hid (HBa.out.trans (hb.mono HBa.out.size))
  have HC4 := Lib.hid (Kd.C_below (Kd.C_alloc HC1.out _) hb)
  have hlt := World.block_lt_of_cell? w3 _ h1
  have h1' : w4.cell? ⟨ad.block, ad.off + 1, none⟩ = some (.slice A1 1 c1) := (hb.cell (by rw [size_alloc]; exact Nat.lt_succ_of_lt hlt)).trans ((World.cell?_of_block (w := w3) (heap_old' w3 _ hlt)).trans h1)
  clear hb hD h0 h1 hlt
  go_wp2_with fail
  have hD := ints_new w4 [1] (by decide)
  have HBb := Lib.hid (HB4.out.alloc HB4.out.size (.cells #[.int .i64 1] tInt))
  refine (sameInt_any A1 (some ⟨w4.heap.size, 0, none⟩) c1 1 [1] [1] _ (Kd.C_alloc HC4.out _) hD).mono ?_
  rintro e w5 ⟨rfl, hb⟩
  have HB5 := Lib.hid (HBb.out.trans (hb.mono HBb.out.size))
  clear hb hD h1'
  go_wp2_with fail
  go_ret
  exact ⟨by simp, HB5.out⟩
end Go.Proofs.Ytjifoimkjgepcaa.Da
