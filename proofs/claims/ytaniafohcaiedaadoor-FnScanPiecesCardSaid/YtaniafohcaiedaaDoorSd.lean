/-
  The walk of utf8.DecodeRune where the first byte is ASCII.
-/
import Derived.Test.YtaniafohcaiedaaDoorSp
set_option linter.unusedVariables false
set_option linter.unusedSimpArgs false
namespace Go.Proofs.YtaniafohcaiedaaDoor.Sn
open Go.RowKit Go.Proofs.YtaniafohcaiedaaDoor.K Go.Proofs.YtaniafohcaiedaaDoorW.PrintWords

set_option maxHeartbeats 1000000 in
set_option maxRecDepth 5000 in
theorem decode_ascii (ad : Addr) (n c : Nat) (x : Int) (w : World) (hn : 0 < n) (hnm : n ≤ 9223372036854775807) (hx0 : 0 ≤ x) (hx : x < 128) (hc : w.cell? ad = some (.int .u8 x)) :
    Calls Tryd.prog 71 #[.slice (some ad) n c] w fun e w' => e = .returned (.tuple #[.int .i32 x, .int .i64 1]) ∧ w' = w := by
  go_enter Tryd.func71, Tryd.ntmps71
  go_wp2_with fail
  go_loopw [8] (fun i wr => i = .int .i64 0 ∧ wr = w) (fun _ _ => 0)
  case atStart => exact ⟨rfl, rfl⟩
  case round =>
    obtain ⟨rfl, rfl⟩ := hrel
    go_wp2_with fail
    go_ret2
    exact ⟨rfl, rfl⟩

/-- What decodes a text that lies at a block's head from a place on. -/
def DecodesT (w : World) (g N C : Nat) (dec : Nat → Int × Nat) : Prop :=
  ∀ q, q < N → 0 < (dec q).2 ∧ q + (dec q).2 ≤ N ∧ ∀ W, Below w.heap.size w W → Calls Tryd.prog 71 #[.slice (some ⟨g, q, none⟩) (N - q) (C - q)] W fun e w' => e = .returned (.tuple #[.int .i32 (dec q).1, .int .i64 (dec q).2]) ∧ Below W.heap.size W w'
theorem g1_pos {dl fl : List Int} {most : Int} {dec : Nat → Int × Nat} {n : Nat} (hd : ∀ p, p < n → 0 < (dec p).2 ∧ p + (dec p).2 ≤ n) : ∀ (m p rc : Nat), n - p ≤ m → p ≤ n → p ≤ (g1 dl fl most dec n p rc).1 ∧ (g1 dl fl most dec n p rc).1 ≤ n ∧ (p < n → p < (g1 dl fl most dec n p rc).1) := by
  have hg2 : ∀ (m p : Nat), n - p ≤ m → p ≤ n → p ≤ g2 dl fl dec n p ∧ g2 dl fl dec n p ≤ n := by
    intro m
    induction m with
    | zero =>
      intro p hm hp
      rw [g2, dif_neg (by omega)]
      exact ⟨Nat.le_refl _, hp⟩
    | succ m ih =>
      intro p hm hp
      by_cases hlt : p < n
      · obtain ⟨h1, h2⟩ := hd p hlt
        rw [g2, dif_pos ⟨hlt, h1⟩]
        split
        · have := ih (p + (dec p).2) (by omega) h2; omega
        · omega
      · rw [g2, dif_neg (by omega)]
        exact ⟨Nat.le_refl _, hp⟩
  intro m
  induction m with
  | zero =>
    intro p rc hm hp
    rw [g1, dif_neg (by omega)]
    exact ⟨Nat.le_refl _, hp, fun h => by omega⟩
  | succ m ih =>
    intro p rc hm hp
    by_cases hlt : p < n
    · obtain ⟨h1, h2⟩ := hd p hlt
      rw [g1, dif_pos ⟨hlt, h1⟩]
      split
      · have := ih (p + (dec p).2) (rc + 1) (by omega) h2; omega
      · have := hg2 n (p + (dec p).2) (by omega) h2
        simp only []
        omega
    · rw [g1, dif_neg (by omega)]
      exact ⟨Nat.le_refl _, hp, fun h => by omega⟩

/-- The sentences of a text from a place on. -/
def sents (dl fl : List Int) (most : Int) (dec : Nat → Int × Nat) (s : ByteArray) (off : Nat) : List ByteArray :=
  if h : off < s.size ∧ 0 < (g1 dl fl most (fun p => dec (off + p)) (s.size - off) 0 0).1 then
    s.extract off (off + (g1 dl fl most (fun p => dec (off + p)) (s.size - off) 0 0).1) :: sents dl fl most dec s (off + (g1 dl fl most (fun p => dec (off + p)) (s.size - off) 0 0).1)
  else []
termination_by s.size - off
decreasing_by omega
theorem bytes_ext {s : ByteArray} {off e : Nat} (h : off + e ≤ s.size) : strOfNums (((bytesOf s).drop off).take e) = s.extract off (off + e) := by
  apply ba_ext
  apply Array.ext'
  simp only [strOfNums, bytesOf, ByteArray.data_extract, Array.toList_extract, List.extract_eq_take_drop, Nat.add_sub_cancel_left, ← List.map_drop, ← List.map_take, List.map_map, List.toList_toArray]
  conv => rhs; rw [← List.map_id (List.take e (List.drop off s.data.toList))]
  exact List.map_congr_left fun b _ => by simp

def sliceLen : Value → Nat
  | .slice _ n _ => n
  | _ => 0
theorem add_plain' (g o j : Nat) : (⟨g, o, none⟩ : Addr).add j = ⟨g, o + j, none⟩ := by unfold Addr.add; split <;> simp_all
theorem bytes_C {s : ByteArray} {g N off e : Nat} {w0 w : World} (hb : Below w0.heap.size w0 w) (h : ∀ j, j < N → w0.cell? ⟨g, j, none⟩ = some (.int .u8 (bt s j))) (hN : s.size = N) (he : off + e ≤ N) (hm : e ≤ 9223372036854775807) : (Kd.int .u8).C w (some ⟨g, off, none⟩) e (((bytesOf s).drop off).take e) := by
  have hl : (((bytesOf s).drop off).take e).length = e := by rw [List.length_take, List.length_drop, bytesOf_length]; omega
  refine ⟨hl, hm, fun _ => ⟨_, rfl, fun j p hp => ⟨[.int .u8 p], rfl, rfl, ?_⟩⟩⟩
  · intro i u hu
    cases i with
    | succ i => simp at hu
    | zero =>
      simp at hu
      subst hu
      have hj : j < e := by rw [← hl]; exact (List.getElem?_eq_some_iff.1 hp).1
      have e0 : (Kd.int .u8).sz = 1 := rfl
      rw [e0, Nat.mul_one, Nat.add_zero, add_plain', (hb.cell (World.block_lt_of_cell? _ _ (h (off + j) (by omega)))), h (off + j) (by omega)]
      rw [List.getElem?_take, if_pos hj, List.getElem?_drop] at hp
      have := rd_bytesOf s ((off + j : Nat) : Int)
      unfold rd at this
      rw [Int.toNat_natCast, List.getD_eq_getElem?_getD, hp] at this
      simp at this
      rw [this]
      simp
set_option maxHeartbeats 4000000 in
set_option maxRecDepth 5000 in
theorem sentences_any (D F : Option Addr) (cd cf : Nat) (most : Int) (dl fl : List Int) (s : ByteArray) (dec : Nat → Int × Nat) (w : World) (hD : (Kd.int .i32).C w D dl.length dl) (hF : (Kd.int .i32).C w F fl.length fl) (hdl : dl.length ≤ 2147483647) (hfl : fl.length ≤ 2147483647) (hs : s.size ≤ 2147483647)
    (hdec : ∀ w0 C, Below w.heap.size w w0 → (∀ j, j < s.size → w0.cell? ⟨w.heap.size + 1, j, none⟩ = some (.int .u8 (bt s j))) → s.size ≤ C → DecodesT w0 (w.heap.size + 1) s.size C dec) :
    Calls Tryd.prog 27 #[splV D F dl.length cd fl.length cf false false most, .string s] w (RetRow Kd.string 9 (sents dl fl most dec s 0) w) := by
  obtain ⟨S, hS⟩ : ∃ S, sents dl fl most dec s 0 = S := ⟨_, rfl⟩
  rw [hS]
  have HS := Lib.hid hS
  clear hS
  have hDm := hD.2.1
  have hFm := hF.2.1
  have HD := Lib.hid hD
  have HF := Lib.hid hF
  have HDEC := Lib.hid hdec
  clear hD hF hdec
  show Calls _ _ #[.agg #[.slice D dl.length cd, .slice F fl.length cf, .bool false, .bool false, .int .i64 most], .string s] w _
  have kb := fun W => print_bytes (P := Tryd.prog) 9 25 5 Tryd.underlying9 Tryd.underlying25 Tryd.underlying5 s W
  go_enter Tryd.func27, Tryd.ntmps27
  go_wp2_with fail
  have hg0 := heap_new w (.cells #[.slice D dl.length cd, .slice F fl.length cf, .bool false, .bool false, .int .i64 most] 50)
  generalize hW1 : w.alloc (.cells #[.slice D dl.length cd, .slice F fl.length cf, .bool false, .bool false, .int .i64 most] 50) = wa at hg0 ⊢
  have hza : wa.heap.size = w.heap.size + 1 := by rw [← hW1]; simp
  have hba : Below w.heap.size w wa := hW1 ▸ below_alloc (Below.refl _ _) _
  obtain ⟨C, hC⟩ : ∃ C, grownCap wa s.size 0 5 = C := ⟨_, rfl⟩
  have hCg : s.size ≤ C := hC ▸ grownCap_ge _ _ _ _
  have hCm : C ≤ 9223372036854775807 := by have := grownCap_le_maxLen wa s.size 0 5 (by simp only [maxLen]; omega); rw [hC] at this; simpa [maxLen] using this
  rw [hC]
  have hg1 : (Lib.bytesWorld wa 5 s).heap[w.heap.size]? = some (.cells #[.slice D dl.length cd, .slice F fl.length cf, .bool false, .bool false, .int .i64 most] 50 (0, 0)) := (Lib.bytesWorld_at_old wa 5 s _ (lt_of_heap hg0)).trans hg0
  have hbs : ∀ j, j < s.size → (Lib.bytesWorld wa 5 s).cell? ⟨w.heap.size + 1, j, none⟩ = some (.int .u8 (bt s j)) := by
    intro j hj
    obtain ⟨ad, h1, h2⟩ := (bytes_reads wa 5 s (by omega)).2.2 (by omega)
    cases h1
    have h3 := h2 j hj
    rw [add_plain', hza, Nat.zero_add] at h3
    rw [h3]
    have h4 := rd_bytesOf s ((j : Nat) : Int)
    unfold rd at h4
    rw [Int.toNat_natCast] at h4
    rw [h4]
  have hbw : Below w.heap.size w (Lib.bytesWorld wa 5 s) := bytes_below hba (by omega) _ _
  have hz0 : w.heap.size < (Lib.bytesWorld wa 5 s).heap.size := lt_of_heap hg1
  generalize hW0 : Lib.bytesWorld wa 5 s = w0 at hg1 hbs hbw hz0 ⊢
  have HT := Lib.hid (HDEC.out w0 C hbw hbs hCg)
  have H0 := Lib.hid hg1
  have HBS := Lib.hid hbs
  have HBW := Lib.hid hbw
  clear hg0 hW1 hza hba hC hg1 hbs hbw hW0 HDEC
  have qn := fun (w : World) (a : Option Addr) (n c : Nat) => run_neq_slice_nil (P := Tryd.prog) w 25 5 a n c Tryd.underlying25
  obtain ⟨N, hN⟩ : ∃ N, s.size = N := ⟨_, rfl⟩
  rw [hN]
  rw [hN] at hCg HT HBS hs
  have HN := Lib.hid hN
  clear hN kb
  go_loopw [5, 6] (fun b v wr => ∃ (off : Nat) (Ab : Option Addr) (Cb : Nat) (acc : List ByteArray), b = .slice Ab (N - off) Cb ∧ off ≤ N ∧ acc.length ≤ off ∧ (off < N → Ab = some ⟨w.heap.size + 1, off, none⟩ ∧ Cb = C - off) ∧ Hid (S = acc ++ sents dl fl most dec s off) ∧ Hid (Kd.string.R 9 wr w0.heap.size (fun _ => True) v acc) ∧ Hid (Below w0.heap.size w0 wr)) (fun b _ _ => sliceLen b)
  case atStart => exact ⟨0, _, _, [], rfl, Nat.zero_le _, Nat.le_refl _, fun _ => ⟨rfl, rfl⟩, Lib.hid (by rw [← HS.out]; rfl), Lib.hid (Kd.R_nil _ _ _ _ _), Lib.hid (Below.refl _ _)⟩
  case round =>
    clear HS
    obtain ⟨off, Ab, Cb, acc, rfl, hoff, hacc, hab, HS, hR, hbel⟩ := hrel
    obtain ⟨c0, c1, c2, c3, c4⟩ := cells5 (blk_keep H0.out hbel.out)
    have hzr := hbel.out.size
    by_cases hlt : off < N
    · obtain ⟨rfl, rfl⟩ := hab hlt
      have HB1 := Lib.hid (HBW.out.trans (hbel.out.mono (Nat.le_of_lt hz0)))
      go_wp2_with fail
      refine (splitterOf_any D F cd cf false false most dl fl wr (Kd.C_below HD.out HB1.out) (Kd.C_below HF.out HB1.out) hdl hfl).mono ?_
      rintro e w2 ⟨D', F', cd', cf', rfl, hD', hF', hb2⟩
      have HL2 := Lib.hid (hbel.out.trans (hb2.mono hzr))
      have HB2 := Lib.hid hb2
      have HD' := Lib.hid hD'
      have HF' := Lib.hid hF'
      clear hD' hF' hb2 c0 c1 c2 c3 c4
      have hg := g1_pos (dl := dl) (fl := fl) (most := most) (dec := fun p => dec (off + p)) (n := N - off) (fun p hp => ⟨(HT.out (off + p) (by omega)).1, by have := (HT.out (off + p) (by omega)).2.1; show p + (dec (off + p)).2 ≤ N - off; omega⟩) (N - off) 0 0 (by omega) (Nat.zero_le _)
      have HSE := Lib.hid (show sents dl fl most dec s off = _ from by rw [sents, HN.out, dif_pos ⟨hlt, hg.2.2 (by omega)⟩])
      have HSC := Lib.hid (scan_true D' F' cd' cf' most dl fl ⟨w.heap.size + 1, off, none⟩ (N - off) (C - off) (fun p => dec (off + p)) w2 HD'.out HF'.out (by omega) (by omega) (by omega) (by
        intro p hp
        obtain ⟨h1, h2, h3⟩ := HT.out (off + p) (by omega)
        refine ⟨h1, by show p + (dec (off + p)).2 ≤ N - off; omega, fun W hW => ?_⟩
        have := h3 W (HL2.out.trans (hW.mono HL2.out.size))
        rw [add_plain', Nat.sub_sub, Nat.sub_sub]
        exact this))
      unfold ScanRet at HSC
      obtain ⟨eb, heb⟩ : ∃ x, g1 dl fl most (fun p => dec (off + p)) (N - off) 0 0 = x := ⟨_, rfl⟩
      rw [heb] at hg HSE HSC
      obtain ⟨e1, b1⟩ := eb
      simp only [Bool.or_true, if_true] at HSC
      simp only [] at hg HSE
      clear heb
      have he0 : 0 < e1 := hg.2.2 (by omega)
      have heN : e1 ≤ N - off := hg.2.1
      clear hg
      unfold splV
      go_wp2_with fail
      refine HSC.out.mono ?_
      rintro e w3 ⟨rfl, hb3⟩
      have HL3 := Lib.hid (HL2.out.trans (hb3.mono HL2.out.size))
      have HB3 := Lib.hid hb3
      have hz3 := HL3.out.size
      clear hb3 HSC
      have hcv := Kd.C_string (P := Tryd.prog) (src := 25) (dst := 9) (e := 5) (w := w3) (A := some ⟨w.heap.size + 1, off, none⟩) (n := e1) (c := C - off) (xs := ((bytesOf s).drop off).take e1) Tryd.underlying25 Tryd.underlying5 Tryd.underlying9 (bytes_C HL3.out HBS.out HN.out (by omega) (by omega))
      rw [bytes_ext (by rw [HN.out]; omega)] at hcv
      have HR3 := Lib.hid (Kd.R_below hR.out (below_step (show Below wr.heap.size wr w2 from HB2.out) HB3.out))
      have HSS := Lib.hid (HS.out.trans (congrArg (acc ++ ·) HSE.out))
      clear HSE
      go_wp2_with (at_builtin; refine kapp (w0 := w0) Kd.string w0.heap.size rfl _ _ 45 9 (.string ⟨#[]⟩) 16 rfl Tryd.underlying45 (by kernel_rfl) rfl (by decide) (by decide) _ acc (s.extract off (off + e1)) [.string (s.extract off (off + e1))] (fun _ => True) (fun _ => False) _ rfl rfl ?hg rfl (fun _ h => h.elim) (fun _ _ => trivial) (Kd.R_alloc HR3.out _) (HL3.out.alloc hz3 _) (by simp; omega) ?hl ?_)
      case hg =>
        intro j u hj
        rw [cell_of_heap (heap_new _ _)]
        simpa using hj
      case hl => omega
      intro v4 w4 hR4 hB4 hg4 hat4
      have HR4 := Lib.hid hR4
      have HB4 := Lib.hid hB4
      clear hg4 hat4 hR4 hB4 hcv
      have HSF := Lib.hid (show S = (acc ++ [s.extract off (off + e1)]) ++ sents dl fl most dec s (off + e1) by rw [HSS.out, List.append_assoc]; rfl)
      clear HSS HS
      have hle : ¬ (e1 : Int) ≤ 0 := by omega
      have hal : (acc ++ [s.extract off (off + e1)]).length ≤ off + e1 := by rw [List.length_append, List.length_singleton]; omega
      generalize acc ++ [s.extract off (off + e1)] = acc' at hal HSF HR4
      by_cases hend : off + e1 < N
      · have hne : ¬ C - off = e1 := by omega
        go_wp2_with fail
        rw [Nat.sub_sub, Nat.sub_sub]
        exact ⟨⟨off + e1, _, _, acc', rfl, by omega, hal, fun _ => ⟨rfl, rfl⟩, HSF, HR4, HB4⟩, by simp only [sliceLen]; omega⟩
      · have hend' : N - off = e1 := by omega
        by_cases hne : C - off = e1
        all_goals
          go_wp2_with fail
          try rw [Nat.sub_sub]
          exact ⟨⟨off + e1, _, _, acc', by first | rfl | (rw [hend'] ; rfl) | (congr 1; omega), by omega, hal, fun h => absurd h hend, HSF, HR4, HB4⟩, by simp only [sliceLen]; omega⟩
    · obtain rfl : off = N := by omega
      have HSF := Lib.hid (HS.out.trans (show acc ++ sents dl fl most dec s off = acc by rw [sents, HN.out, dif_neg (by omega), List.append_nil]))
      have HBL := Lib.hid (HBW.out.trans (hbel.out.mono (Nat.le_of_lt hz0)))
      have hwz := HBW.out.size
      go_wp2_with fail
      go_ret
      show RetRow Kd.string 9 S w _ _
      rw [HSF.out]
      exact ⟨_, rfl, Kd.R_lower hR.out hwz, HBL.out⟩
end Go.Proofs.YtaniafohcaiedaaDoor.Sn
