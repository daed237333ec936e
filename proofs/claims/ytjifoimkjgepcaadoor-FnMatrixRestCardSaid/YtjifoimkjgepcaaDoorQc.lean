/-
  The walk of builder.parseMatrix.
-/
import Derived.Test.YtjifoimkjgepcaaDoorQb
set_option linter.unusedVariables false
set_option linter.unusedSimpArgs false
namespace Go.Proofs.YtjifoimkjgepcaaDoor.Tx
open Go.RowKit Go.Proofs.YtjifoimkjgepcaaDoor.K Go.Proofs.YtjifoimkjgepcaaDoorW.PrintWords

abbrev Ent := Int × Int × Int
def entsL (es : List Ent) : List UInt8 := es.flatMap fun x => lineL x ++ [10]
/-- The text of a matrix. -/
def mtx (R C : Int) (es : List Ent) : List UInt8 := Lib.itoa R ++ 32 :: (Lib.itoa C ++ 10 :: entsL es)
theorem no10 (n : Int) : (10 : UInt8) ∉ Lib.itoa n := itoa_no (by decide) (by decide)
theorem no13 (n : Int) : (13 : UInt8) ∉ Lib.itoa n := itoa_no (by decide) (by decide)
theorem no32 (n : Int) : (32 : UInt8) ∉ Lib.itoa n := itoa_no (by decide) (by decide)
theorem line_no {c : UInt8} (h1 : c ≠ 45) (h2 : c.toNat < 48) (h3 : c ≠ 32) (x : Ent) : c ∉ lineL x := by
  intro h
  simp only [lineL, List.mem_append, List.mem_singleton] at h
  rcases h with h | h | h | h | h
  · exact itoa_no h1 h2 h
  · exact h3 h
  · exact itoa_no h1 h2 h
  · exact h3 h
  · exact itoa_no h1 h2 h
theorem strip_no {l : List UInt8} (h : (13 : UInt8) ∉ l) : strip l = l := by
  unfold strip
  rw [if_neg]
  intro e
  exact h (List.mem_of_getLast? e)
theorem raw_ents : ∀ es, rawL (entsL es) = es.map lineL
  | [] => by simp [entsL, rawL_nil]
  | x :: es => by
    have e : entsL (x :: es) = lineL x ++ 10 :: entsL es := by simp [entsL]
    rw [e, rawL_app (line_no (by decide) (by decide) (by decide) x), raw_ents es, List.map_cons]
def firstL (R C : Int) : List UInt8 := Lib.itoa R ++ 32 :: Lib.itoa C
theorem lines_mtx (R C : Int) (es : List Ent) : (rawL (mtx R C es)).map strip = firstL R C :: es.map lineL := by
  have e : mtx R C es = firstL R C ++ 10 :: entsL es := by simp [mtx, firstL]
  have h10 : (10 : UInt8) ∉ firstL R C := by
    intro h
    simp only [firstL, List.mem_append, List.mem_cons] at h
    rcases h with h | h | h
    · exact no10 _ h
    · cases h
    · exact no10 _ h
  have h13 : (13 : UInt8) ∉ firstL R C := by
    intro h
    simp only [firstL, List.mem_append, List.mem_cons] at h
    rcases h with h | h | h
    · exact no13 _ h
    · cases h
    · exact no13 _ h
  rw [e, rawL_app h10, raw_ents, List.map_cons, strip_no h13, List.map_map]
  congr 1
  apply List.map_congr_left
  intro x _
  exact strip_no (line_no (by decide) (by decide) (by decide) x)
theorem split_first (R C : Int) : splitC 32 (firstL R C) = [Lib.itoa R, Lib.itoa C] := by
  rw [firstL, splitC_app (no32 R), splitC_no (no32 C)]
theorem split_line (x : Ent) : splitC 32 (lineL x) = [Lib.itoa x.1, Lib.itoa x.2.1, Lib.itoa x.2.2] := by
  have e : lineL x = Lib.itoa x.1 ++ 32 :: (Lib.itoa x.2.1 ++ 32 :: Lib.itoa x.2.2) := by simp [lineL]
  rw [e, splitC_app (no32 _), splitC_app (no32 _), splitC_no (no32 _)]
/-- The numbers that an entry may bear. -/
def EntOk (x : Ent) : Prop := (0 ≤ x.1 ∧ x.1 ≤ 1000) ∧ (0 ≤ x.2.1 ∧ x.2.1 ≤ 1000) ∧ -32768 ≤ x.2.2 ∧ x.2.2 ≤ 32767
theorem line_len {x : Ent} (h : EntOk x) : (lineL x).length ≤ 20 := by
  have h1 := itoa_len (n := x.1) (by have := h.1; omega) (by have := h.1; omega)
  have h2 := itoa_len (n := x.2.1) (by have := h.2.1; omega) (by have := h.2.1; omega)
  have h3 := itoa_len (n := x.2.2) (by have := h.2.2; omega) (by have := h.2.2; omega)
  simp [lineL]
  omega
theorem ents_len : ∀ es : List Ent, (∀ x ∈ es, EntOk x) → (entsL es).length ≤ 21 * es.length
  | [], _ => by simp [entsL]
  | x :: es, h => by
    have h1 := ents_len es (fun y hy => h y (by simp [hy]))
    have h2 := line_len (h x (by simp))
    have e : entsL (x :: es) = (lineL x ++ [10]) ++ entsL es := by simp [entsL]
    rw [e, List.length_append, List.length_append, List.length_cons]
    simp
    omega
theorem mtx_two {R C : Int} {es : List Ent} (hR : 0 ≤ R ∧ R ≤ 20) (hC : 0 ≤ C ∧ C ≤ 20) (h : ∀ x ∈ es, EntOk x) (hn : es.length ≤ 1000) : TwoN (mtx R C es) (Lib.itoa R) (Lib.itoa C) (entsL es) R C where
  eq := rfl
  n1 := no32 R
  m1 := no10 R
  m2 := no10 C
  r2 := no13 C
  e2 := itoa_ne C
  a1 := atoiAll_itoa (by omega) (by omega)
  a2 := atoiAll_itoa (by omega) (by omega)
  l1 := by have := itoa_len (n := R) (by omega) (by omega); omega
  l2 := by have := itoa_len (n := C) (by omega) (by omega); omega
  lt := by
    have h1 := itoa_len (n := R) (by omega) (by omega)
    have h2 := itoa_len (n := C) (by omega) (by omega)
    have h3 := ents_len es h
    simp [mtx]
    omega
  b1 := hR
  b2 := hC

abbrev tI16 : Nat := 62
abbrev tMx : Nat := 92
def updV (f : Nat → Int) (i : Nat) (v : Int) : Nat → Int := fun j => if j = i then v else f j
def vecOf (R : Nat) (es : List Ent) : Nat → Int := es.foldl (fun f x => updV f (x.2.1 * (R : Int) + x.1).toNat x.2.2) fun _ => 0
theorem vecOf_snoc (R : Nat) (es : List Ent) (x : Ent) : vecOf R (es ++ [x]) = updV (vecOf R es) (x.2.1 * (R : Int) + x.1).toNat x.2.2 := by simp [vecOf, List.foldl_append]
def vecA (N : Nat) (f : Nat → Int) : Array Value := Array.ofFn (n := N) fun i => .int .i16 (f i.1)
theorem vec_zero (N : Nat) : madeCells #[.int .i16 0] N = vecA N fun _ => 0 := by
  apply Array.ext
  · simp [vecA, size_madeCells]
  · intro j h1 h2
    simp [madeCells, vecA, Nat.mod_one]
theorem vec_at {N i : Nat} {f : Nat → Int} (h : i < N) : (vecA N f)[i]? = some (.int .i16 (f i)) := by
  unfold vecA
  rw [Array.getElem?_ofFn, dif_pos h]
theorem vec_set {N i : Nat} {f : Nat → Int} (h : i < N) (v : Int) : (vecA N f).setIfInBounds i (.int .i16 v) = vecA N (updV f i v) := by
  apply Array.ext
  · simp [vecA]
  · intro j h1 h2
    have h3 : j < N := by simpa [vecA] using h2
    rw [Array.getElem_setIfInBounds (by simpa [vecA] using h3)]
    simp only [vecA, Array.getElem_ofFn, updV]
    by_cases e : i = j
    · subst e; simp
    · rw [if_neg e, if_neg (fun h => e h.symm)]
theorem make_i16 (N : Nat) (hN : N ≤ 1000000) (W : World) : (Instr.makeSlice 57 (.int .i64 N) (.int .i64 N)).run Tryd.prog W = .ok (.slice (some ⟨W.heap.size, 0, none⟩) N N) (W.alloc (.cells (vecA N fun _ => 0) tI16)) := by
  rw [← vec_zero]
  exact run_make_row' (P := Tryd.prog) 57 62 (.int .i16 0) 2 Tryd.underlying57 (by kernel_rfl) rfl .i64 .i64 N (by omega) (by omega) W
theorem add_lit (ad : Addr) (i : Nat) (h : i ≠ 0) : ad.add i = ⟨ad.block, ad.off + i, none⟩ := by simp [Addr.add, h]
theorem C_tail {w : World} {g c : Nat} {x : ByteArray} {xs : List ByteArray} (h : Kd.string.C w (some ⟨g, 0, none⟩) (xs.length + 1) (x :: xs)) (hc : xs.length + 1 ≤ c) : Kd.string.C w (if c = 1 then some ⟨g, 0, none⟩ else some ⟨g, 1, none⟩) xs.length xs := by
  refine ⟨rfl, by have := h.2.1; omega, fun hp => ?_⟩
  rw [if_neg (by omega)]
  obtain ⟨ad, he, hc⟩ := h.2.2 (by omega)
  injection he with he
  subst he
  refine ⟨_, rfl, fun j p hj => ?_⟩
  obtain ⟨cs, h1, h2, h3⟩ := hc (j + 1) p (by simpa using hj)
  refine ⟨cs, h1, h2, fun i u hu => ?_⟩
  have := h3 i u hu
  have e : Kd.string.sz = 1 := rfl
  rw [e] at this ⊢
  rw [Nat.mul_one] at this ⊢
  have e2 : (⟨g, 1, none⟩ : Addr).add (j + i) = (⟨g, 0, none⟩ : Addr).add (j + 1 + i) := by
    unfold Addr.add
    by_cases h0 : j + i = 0
    · rw [if_pos h0, if_neg (by omega)]
      simp
      omega
    · rw [if_neg h0, if_neg (by omega)]
      simp
      omega
  rw [e2]
  exact this
/-- What parseMatrix returns. -/
def PRet (R C : Nat) (es : List Ent) (w : World) (e : Ending) (w' : World) : Prop :=
  ((∀ x ∈ es, x.1 < R ∧ x.2.1 < C) ∧ ∃ b g, e = .returned (.tuple #[.pointer (some ⟨b, 0, none⟩), .nilIface]) ∧ w'.heap[b]? = some (.cells #[.int .i64 (R : Int), .int .i64 (C : Int), .slice (some ⟨g, 0, none⟩) (R * C) (R * C)] tMx (0, 0)) ∧ w'.heap[g]? = some (.cells (vecA (R * C) (vecOf R es)) tI16 (0, 0)) ∧ Below w.heap.size w w') ∨
  ((∃ x ∈ es, ¬ (x.1 < R ∧ x.2.1 < C)) ∧ ∃ p, e = .returned (.tuple #[.pointer none, .iface 128 (.pointer p)]) ∧ Below w.heap.size w w')
theorem errN_any (s : ByteArray) (w : World) : Calls Tryd.prog 50 #[.string s] w fun e w' => e = .returned (.iface 128 (.pointer (some ⟨w.heap.size, 0, none⟩))) ∧ Below w.heap.size w w' := by
  go_enter Tryd.func50, Tryd.ntmps50
  go_wp2
  go_ret
  exact ⟨by simp, (Below.refl _ _).alloc (Nat.le_refl _) _⟩
set_option maxHeartbeats 2000000 in
set_option maxRecDepth 5000 in
theorem parse_any (R C : Nat) (es : List Ent) (w : World) (hR : 1 ≤ R ∧ R ≤ 20) (hC : 1 ≤ C ∧ C ≤ 20) (hes : ∀ x ∈ es, EntOk x) (hn : es.length ≤ 1000) :
    Calls Tryd.prog 38 #[.string (ofL (mtx R C es))] w (PRet R C es w) := by
  have HES := Lib.hid hes
  have htw := mtx_two (es := es) (R := (R : Int)) (C := (C : Int)) (by omega) (by omega) hes hn
  have HZ := Lib.hid (lines_any (mtx R C es) w (by have := htw.lt; omega))
  rw [lines_mtx, List.map_cons, List.map_map] at HZ
  have HA1 := Lib.hid htw.a1
  have HA2 := Lib.hid htw.a2
  have HL1 := Lib.hid htw.l1
  have HL2 := Lib.hid htw.l2
  generalize mtx R C es = l at HZ ⊢
  clear htw hes
  go_enter Tryd.func38, Tryd.ntmps38
  go_wp2_with fail
  refine HZ.out.mono ?_
  rintro e w1 ⟨v1, rfl, hr1, hb1⟩
  obtain ⟨g1, c1, rfl, hg1, hg1l, cur1, hh1⟩ := Kd.R_form hr1 (by simp)
  obtain ⟨A1, c1', e1, hc1', hC1⟩ := Kd.R_reads hr1
  injection e1 with e1 _ ec
  subst e1 ec
  have HC1 := Lib.hid hC1
  have HB1 := Lib.hid hb1
  have h0 : w1.cell? ⟨g1, 0, none⟩ = some (.string (ofL (firstL R C))) := by
    obtain ⟨ad, he, h⟩ := strs_at hC1 0 (by simp)
    injection he with he
    subst he
    simpa [Addr.add] using h
  have hll : (ofL (firstL ↑R ↑C) :: List.map (ofL ∘ lineL) es).length = es.length + 1 := by simp
  rw [hll] at hc1' ⊢
  clear hr1 hb1 hC1 hh1 HZ
  go_upto_region 4 with fail
  go_quiet (fail)
  obtain ⟨AA, hAA⟩ : ∃ AA : Option Addr, AA = (if c1 = 1 then some ⟨g1, 0, none⟩ else some ⟨g1, 1, none⟩) := ⟨_, rfl⟩
  have hCT : Kd.string.C w1 AA es.length (es.map (ofL ∘ lineL)) := by
    have h := C_tail (c := c1) (x := ofL (firstL R C)) (xs := es.map (ofL ∘ lineL)) (w := w1) (g := g1) (by rw [List.length_map]; simpa using HC1.out) (by rw [List.length_map]; exact hc1')
    rw [hAA]
    rw [List.length_map] at h
    exact h
  rw [← hAA]
  have HCT : Hid (Kd.string.C (w1.drewN nq) AA es.length (es.map (ofL ∘ lineL))) := Lib.hid (Kd.C_below hCT (pw_below_drewN (Below.refl _ _) nq))
  have HB2 : Hid (Below w.heap.size w (w1.drewN nq)) := Lib.hid (pw_below_drewN HB1.out nq)
  generalize w1.drewN nq = w2 at HCT HB2 ⊢
  clear hAA hCT h0 HC1 HB1 hll hc1'
  have HF := Lib.hid (split_any (firstL R C) 32 w2 (by have h1 := HL1.out; have h2 := HL2.out; simp [firstL]; omega))
  rw [split_first] at HF
  simp only [List.map_cons, List.map_nil] at HF
  go_wp2_with fail
  refine HF.out.mono ?_
  rintro e w3 ⟨v3, rfl, hr3, hb3⟩
  obtain ⟨A3, c3, rfl, -, hC3⟩ := Kd.R_reads hr3
  obtain ⟨ad3, rfl, hs0⟩ := strs_at hC3 0 (by simp)
  obtain ⟨ad3', he, hs1⟩ := strs_at hC3 1 (by simp)
  injection he with he
  subst he
  rw [add_lit _ _ (by decide)] at hs1
  have HS1 := Lib.hid hs1
  have hs0' : w3.cell? ad3 = some (.string (ofL (Lib.itoa R))) := by
    have e : ad3.add 0 = ad3 := by cases ad3; simp [Addr.add]
    rw [e] at hs0
    exact hs0
  have hl2 : [ofL (Lib.itoa (R : Int)), ofL (Lib.itoa (C : Int))].length = 2 := rfl
  rw [hl2]
  have HB3 := Lib.hid (HB2.out.trans (hb3.mono HB2.out.size))
  have HCT3 := Lib.hid (Kd.C_below HCT.out hb3)
  have I1 := Lib.hid (parse_call (Lib.itoa (R : Int)) R (by have := HL1.out; omega) HA1.out w3)
  clear hr3 hb3 hC3 hs0 hs1 hl2 HF HCT HB2
  go_wp2_with fail
  refine I1.out.mono ?_
  rintro e w4 ⟨rfl, hb4⟩
  have hs1 : w4.cell? ⟨ad3.block, ad3.off + 1, none⟩ = some (.string (ofL (Lib.itoa C))) := (hb4.cell (World.block_lt_of_cell? w3 _ HS1.out)).trans HS1.out
  have HB4 := Lib.hid (HB3.out.trans (hb4.mono HB3.out.size))
  have HCT4 := Lib.hid (Kd.C_below HCT3.out hb4)
  have I2 := Lib.hid (parse_call (Lib.itoa (C : Int)) C (by have := HL2.out; omega) HA2.out w4)
  clear hb4 hs0' I1 HS1 HB3 HCT3
  go_wp2_with fail
  refine I2.out.mono ?_
  rintro e w5 ⟨rfl, hb5⟩
  have HB5 := Lib.hid (HB4.out.trans (hb5.mono HB4.out.size))
  have HCT5 := Lib.hid (Kd.C_below HCT4.out hb5)
  clear hb5 hs1 I2 HB4 HCT4
  obtain ⟨N, hN⟩ : ∃ N, N = R * C := ⟨_, rfl⟩
  have hNb : N ≤ 400 := by rw [hN]; exact Nat.mul_le_mul hR.2 hC.2
  have hRC : (R : Int) * (C : Int) = (N : Int) := by rw [hN]; simp
  have HN := Lib.hid hN
  have hmk := make_i16 N (by omega)
  clear hN
  go_upto_region 15 with fail
  obtain ⟨vb, hvb⟩ : ∃ vb, vb = w5.heap.size := ⟨_, rfl⟩
  obtain ⟨w6, hw6⟩ : ∃ w6, w6 = w5.alloc (.cells (vecA N fun _ => 0) tI16) := ⟨_, rfl⟩
  have HV6 : Hid (w6.heap[vb]? = some (.cells (vecA N (vecOf R (es.take 0))) tI16 (0, 0))) := Lib.hid (by rw [hw6, hvb]; exact heap_new _ _)
  have HB6 : Hid (Below w5.heap.size w5 w6) := Lib.hid (by rw [hw6]; exact (Below.refl _ _).alloc (Nat.le_refl _) _)
  have HVB : Hid (w5.heap.size ≤ vb) := Lib.hid (by rw [hvb]; exact Nat.le_refl _)
  rw [← hw6, ← hvb]
  clear hw6 hvb hmk
  go_upto_region 16 with fail
  go_loopw [12, 13, 14, 15, 16, 17, 60] (fun _ _ _ _ _ _ jv wr => ∃ k : Nat, k ≤ es.length ∧ jv = .int .i64 k ∧ Hid (∀ x ∈ es.take k, x.1 < R ∧ x.2.1 < C) ∧ Hid (wr.heap[vb]? = some (.cells (vecA N (vecOf R (es.take k))) tI16 (0, 0))) ∧ Hid (Below w5.heap.size w5 wr)) (fun _ _ _ _ _ _ jv _ => es.length - (intOf jv).toNat)
  case atStart => exact ⟨0, Nat.zero_le _, rfl, Lib.hid (by simp), HV6, HB6⟩
  case round =>
    clear HV6 HB6
    obtain ⟨k, hk, rfl, HIN, HV, HB⟩ := hrel
    by_cases hlt : k < es.length
    · have hl1 : k < (es.map (ofL ∘ lineL)).length := by rw [List.length_map]; exact hlt
      obtain ⟨ad, rfl, hx⟩ := strs_at HCT5.out k hl1
      have hy := (HB.out.cell (World.block_lt_of_cell? w5 _ hx)).trans hx
      rw [List.getElem_map] at hy
      have HTK : Hid (es.take (k + 1) = es.take k ++ [es[k]]) := Lib.hid (List.take_succ_eq_append_getElem hlt)
      have hxm := List.getElem_mem hlt
      have hxo := HES.out _ hxm
      have HXM := Lib.hid hxm
      obtain ⟨x, hxe⟩ : ∃ x, x = es[k] := ⟨_, rfl⟩
      rw [← hxe] at hy HTK hxo HXM
      have hll := line_len hxo
      have HSX := Lib.hid (split_any (lineL x) 32 wr (by omega))
      rw [split_line] at HSX
      simp only [List.map_cons, List.map_nil] at HSX
      obtain ⟨x1, x2, x3⟩ := x
      obtain ⟨⟨ha1, ha2⟩, ⟨hb1, hb2⟩, hc1, hc2⟩ := hxo
      simp only [Function.comp] at ha1 ha2 hb1 hb2 hc1 hc2 hy HSX
      obtain ⟨r, rfl⟩ := Int.eq_ofNat_of_zero_le ha1
      obtain ⟨c, rfl⟩ := Int.eq_ofNat_of_zero_le hb1
      have hr1000 : r ≤ 1000 := by omega
      have hc1000 : c ≤ 1000 := by omega
      have hli : (k : Int) < (es.length : Int) := by omega
      have N1 := Lib.hid (And.intro (atoiAll_itoa (n := (r : Int)) (by omega) (by omega)) (itoa_len (n := (r : Int)) (by omega) (by omega)))
      have N2 := Lib.hid (And.intro (atoiAll_itoa (n := (c : Int)) (by omega) (by omega)) (itoa_len (n := (c : Int)) (by omega) (by omega)))
      have N3 := Lib.hid (And.intro (atoiAll_itoa (n := x3) (by omega) (by omega)) (itoa_len (n := x3) (by omega) (by omega)))
      clear hl1 hx hxm hxe hll ha1 ha2 hb1 hb2
      go_wp2_with fail
      refine HSX.out.mono ?_
      rintro e w7 ⟨v7, rfl, hr7, hb7⟩
      obtain ⟨A7, c7, rfl, -, hC7⟩ := Kd.R_reads hr7
      obtain ⟨ad7, rfl, hs0⟩ := strs_at hC7 0 (by simp)
      obtain ⟨ad7', he, hs1⟩ := strs_at hC7 1 (by simp)
      injection he with he
      subst he
      obtain ⟨ad7', he, hs2⟩ := strs_at hC7 2 (by simp)
      injection he with he
      subst he
      rw [add_lit _ _ (by decide)] at hs1 hs2
      have HS1 := Lib.hid hs1
      have HS2 := Lib.hid hs2
      have hs0' : w7.cell? ad7 = some (.string (ofL (Lib.itoa (r : Int)))) := by
        have e : ad7.add 0 = ad7 := by cases ad7; simp [Addr.add]
        rw [e] at hs0
        exact hs0
      have hl3 : [ofL (Lib.itoa (r : Int)), ofL (Lib.itoa (c : Int)), ofL (Lib.itoa x3)].length = 3 := rfl
      rw [hl3]
      have HB7 := Lib.hid (HB.out.trans (hb7.mono HB.out.size))
      have HV7 := Lib.hid ((hb7.block vb (lt_of_heap HV.out)).trans HV.out)
      have I1 := Lib.hid (parse_call (Lib.itoa (r : Int)) r (by have := N1.out.2; omega) N1.out.1 w7)
      clear hr7 hb7 hC7 hs0 hs1 hs2 hl3 HSX hy HV HB
      go_wp2_with fail
      refine I1.out.mono ?_
      rintro e w8 ⟨rfl, hb8⟩
      have hs1 : w8.cell? ⟨ad7.block, ad7.off + 1, none⟩ = some (.string (ofL (Lib.itoa (c : Int)))) := (hb8.cell (World.block_lt_of_cell? w7 _ HS1.out)).trans HS1.out
      have HS22 := Lib.hid ((hb8.cell (World.block_lt_of_cell? w7 _ HS2.out)).trans HS2.out)
      have HB8 := Lib.hid (HB7.out.trans (hb8.mono HB7.out.size))
      have HV8 := Lib.hid ((hb8.block vb (lt_of_heap HV7.out)).trans HV7.out)
      clear hb8 hs0' I1 HS1 HS2 HB7 HV7
      have hr0 : decide ((r : Int) < 0) = false := decide_eq_false (by omega)
      have hc0 : decide ((c : Int) < 0) = false := decide_eq_false (by omega)
      by_cases hrR : r < R
      · have hrr : decide ((R : Int) ≤ (r : Int)) = false := decide_eq_false (by omega)
        have I2 := Lib.hid (parse_call (Lib.itoa (c : Int)) c (by have := N2.out.2; omega) N2.out.1 w8)
        go_wp2_with fail
        refine I2.out.mono ?_
        rintro e w9 ⟨rfl, hb9⟩
        have hs2 : w9.cell? ⟨ad7.block, ad7.off + 2, none⟩ = some (.string (ofL (Lib.itoa x3))) := (hb9.cell (World.block_lt_of_cell? w8 _ HS22.out)).trans HS22.out
        have HB9 := Lib.hid (HB8.out.trans (hb9.mono HB8.out.size))
        have HV9 := Lib.hid ((hb9.block vb (lt_of_heap HV8.out)).trans HV8.out)
        clear hb9 hs1 I2 HS22 HB8 HV8
        by_cases hcC : c < C
        · have hcc : decide ((C : Int) ≤ (c : Int)) = false := decide_eq_false (by omega)
          have I3 := Lib.hid (atoi_call (Lib.itoa x3) x3 (by have := N3.out.2; omega) N3.out.1 w9)
          go_wp2_with fail
          refine I3.out.mono ?_
          rintro e wa ⟨rfl, hba⟩
          have HBa := Lib.hid (HB9.out.trans (hba.mono HB9.out.size))
          have HVa := Lib.hid ((hba.block vb (lt_of_heap HV9.out)).trans HV9.out)
          clear hba hs2 I3 HB9 HV9
          obtain ⟨m, hm⟩ : ∃ m, m = c * R := ⟨_, rfl⟩
          obtain ⟨i, hi⟩ : ∃ i, i = m + r := ⟨_, rfl⟩
          have hiN : i < N := by
            rw [hi, hm, HN.out]
            have h1 : c * R + R ≤ C * R := by rw [← Nat.succ_mul]; exact Nat.mul_le_mul_right _ hcC
            rw [Nat.mul_comm R C]
            omega
          have hmul : (c : Int) * (R : Int) = (m : Int) := by rw [hm]; simp
          have hadd : (m : Int) + (r : Int) = (i : Int) := by omega
          have hmb : m ≤ 400 := by omega
          have hw16 : IntKind.i16.wrap x3 = x3 := IntWalk.i16_in _ (by omega)
          have hfz : wa.frozen? ⟨vb, i, none⟩ = false := frozen_of_heap HVa.out i
          have hcl : wa.cell? ⟨vb, i, none⟩ = some (.int .i16 (vecOf R (es.take k) i)) := by rw [cell_of_heap HVa.out]; exact vec_at hiN
          have hidx : ((c : Int) * (R : Int) + (r : Int)).toNat = i := by omega
          have HVb : Hid ((wa.setCell ⟨vb, i, none⟩ (.int .i16 x3)).heap[vb]? = some (.cells (vecA N (vecOf R (es.take (k + 1)))) tI16 (0, 0))) := Lib.hid (by
            rw [heap_set HVa.out, vec_set hiN, HTK.out, vecOf_snoc]
            simp only
            rw [hidx])
          have HBb : Hid (Below w5.heap.size w5 (wa.setCell ⟨vb, i, none⟩ (.int .i16 x3))) := Lib.hid (HBa.out.setCell (p := ⟨vb, i, none⟩) HVB.out _)
          have HINb : Hid (∀ y ∈ es.take (k + 1), y.1 < (R : Int) ∧ y.2.1 < (C : Int)) := Lib.hid (by
            rw [HTK.out]
            intro y hy
            rcases List.mem_append.1 hy with hy | hy
            · exact HIN.out y hy
            · rw [List.mem_singleton.1 hy]
              exact ⟨by simp only; omega, by simp only; omega⟩)
          have hiI : (i : Int) < (N : Int) := by omega
          clear hm hi hidx
          go_wp2_with fail
          exact ⟨⟨k + 1, by omega, by go_num, HINb, HVb, HBb⟩, by simp [intOf]; omega⟩
        · have hcc : decide ((C : Int) ≤ (c : Int)) = true := decide_eq_true (by omega)
          clear hs2
          go_wp2_with fail
          refine (errN_any _ w9).mono ?_
          rintro e wa ⟨rfl, hba⟩
          have HBa := Lib.hid (HB5.out.trans ((HB9.out.trans (hba.mono HB9.out.size)).mono HB5.out.size))
          clear hba
          go_wp2_with fail
          go_ret2
          exact .inr ⟨⟨_, HXM.out, fun h => by have := h.2; simp only at this; omega⟩, _, rfl, HBa.out⟩
      · have hrr : decide ((R : Int) ≤ (r : Int)) = true := decide_eq_true (by omega)
        clear hs1
        go_wp2_with fail
        refine (errN_any _ w8).mono ?_
        rintro e wa ⟨rfl, hba⟩
        have HBa := Lib.hid (HB5.out.trans ((HB8.out.trans (hba.mono HB8.out.size)).mono HB5.out.size))
        clear hba
        go_wp2_with fail
        go_ret2
        exact .inr ⟨⟨_, HXM.out, fun h => by have := h.1; simp only at this; omega⟩, _, rfl, HBa.out⟩
    · obtain rfl : k = es.length := by omega
      have hin := HIN.out
      have hv := HV.out
      rw [List.take_length] at hin hv
      have HV2 := Lib.hid hv
      have HIN2 := Lib.hid hin
      have HBz := Lib.hid (HB5.out.trans (HB.out.mono HB5.out.size))
      clear hin hv
      go_wp2_with fail
      go_ret2
      refine .inl ⟨HIN2.out, wr.heap.size, vb, by simp, ?_, ?_, ?_⟩
      · rw [← HN.out]; exact heap_new _ _
      · rw [← HN.out]; exact heap_old HV2.out _
      · exact HBz.out.alloc HBz.out.size _
end Go.Proofs.YtjifoimkjgepcaaDoor.Tx
