/-
  The walks of ConnectionTable.At, impl.ConnectionAt, laws.costsOne and laws.FnConnectionAt.
-/
import Derived.Test.YtaniafohcaiedaaDoorCr
set_option linter.unusedVariables false
set_option linter.unusedSimpArgs false
namespace Go.Proofs.YtaniafohcaiedaaDoor.Z
open Go.RowKit Go.Proofs.YtaniafohcaiedaaDoor.K Go.Proofs.YtaniafohcaiedaaDoorW.PrintWords

theorem three_back {w : World} {b : Nat} {x y z : Value} (h : LibA.Three w b 0 tBuf (fun _ => none) x y z) : w.heap[b]? = some (.cells #[x, y, z] tBuf (0, 0)) := by
  obtain ⟨cs, hb, h0, h1, h2, hr⟩ := h
  rw [hb]
  have : cs = #[x, y, z] := by
    have h3 := hr 3 (.inr (by omega))
    have hs : cs.size = 3 := by
      have a2 := (Array.getElem?_eq_some_iff.1 h2).1
      have a3 := Array.getElem?_eq_none_iff.1 h3
      omega
    apply Array.ext
    · simpa using hs
    · intro i hi hi'
      have : i = 0 ∨ i = 1 ∨ i = 2 := by omega
      rcases this with rfl | rfl | rfl
      · have := Array.getElem?_eq_getElem hi; rw [h0] at this; simpa using this.symm
      · have := Array.getElem?_eq_getElem hi; rw [h1] at this; simpa using this.symm
      · have := Array.getElem?_eq_getElem hi; rw [h2] at this; simpa using this.symm
  rw [this]
theorem buf_whole {B b : Nat} {xs : List Int} {w : World} (h : Buf B b xs w) : Lib.IsBuffer tBuf U8 B b (nums .u8 xs) w := by
  obtain ⟨hB, v, lr, hbk, r⟩ := h
  exact ⟨hB, v, lr, three_back hbk, r⟩
theorem Buf.keeps {B b : Nat} {xs : List Int} {S : Nat → Prop} {w w' : World} (h : Buf B b xs w) (k : Keeps S w w') (hb : ¬ S b) (hS : ∀ i, i < w.heap.size → S i → ∀ cs fr, w.heap[i]? ≠ some (.cells cs U8 fr)) : Buf B b xs w' := by
  obtain ⟨hB, v, lr, hbk, hown, hne⟩ := h
  refine ⟨hB, v, lr, hbk.of_heap (k.block _ hbk.lt hb), own_move hown (fun i hi => ?_), hne⟩
  obtain ⟨cells, hc⟩ := own_typed hown i hi
  exact k.block _ (lt_of_heap hc) (fun hs => hS i (lt_of_heap hc) hs _ _ hc)

theorem newReader_any (A : Option Addr) (L c : Nat) (w : World) : Calls Tryd.prog 42 #[.slice A L c] w fun e w' => e = .returned (.pointer (some ⟨w.heap.size, 0, none⟩)) ∧ w' = w.alloc (.cells #[.slice A L c, .int .i64 0, .int .i64 (-1)] tRd) := by
  go_enter Tryd.func42, Tryd.ntmps42
  go_wp2
  go_ret
  exact ⟨rfl, rfl⟩

set_option maxHeartbeats 1000000 in
set_option maxRecDepth 5000 in
theorem ct_at (g : Nat) (rows cols : Int) (A : Option Addr) (c : Nat) (xs : List Int) (col row : Int) (p m : Nat) (w : World)
    (hg : w.heap[g]? = some (.cells #[.int .i64 rows, .int .i64 cols, .slice A xs.length c] tCT (0, 0))) (hC : (Kd.int .i16).C w A xs.length xs) (h1 : wrap64 (rows * col) = p) (h2 : wrap64 ((p : Int) + row) = m) (hm : m < xs.length) :
    Calls Tryd.prog 44 #[.pointer (some ⟨g, 0, none⟩), .int .i64 row, .int .i64 col] w fun e w' => e = .returned (.int .i16 xs[m]) ∧ ∃ n, w' = w.drewN n := by
  obtain ⟨ad, rfl, hs⟩ := int_at hC m hm
  have c0 : w.cell? ⟨g, 0, none⟩ = some (.int .i64 rows) := cell_block hg 0
  have c2 : w.cell? ⟨g, 2, none⟩ = some (.slice (some ad) xs.length c) := cell_block hg 2
  go_enter Tryd.func44, Tryd.ntmps44
  go_wp2_with fail
  go_quiet (fail)
  go_wp2
  go_ret
  exact ⟨rfl, _, rfl⟩

set_option maxHeartbeats 2000000 in
set_option maxRecDepth 5000 in
theorem impl_conn (rows cols row col : Int) (A : Option Addr) (c : Nat) (xs : List Int) (m : Nat) (w : World) (hr : 1 ≤ rows ∧ rows ≤ 20) (hcl : 1 ≤ cols ∧ cols ≤ 20) (hC : (Kd.int .i64).C w A xs.length xs) (hx : (xs.length : Int) = rows * cols)
    (hrow : 0 ≤ row ∧ row < rows) (hcol : 0 ≤ col ∧ col < cols) (h16 : In16 xs) (hm : (m : Int) = rows * col + row) (hml : m < xs.length) :
    Calls Tryd.prog 14 #[.int .i64 rows, .int .i64 cols, .slice A xs.length c, .int .i64 row, .int .i64 col] w fun e w' => ∃ v, e = .returned (.tuple #[.int .i64 xs[m], v, .int .i64 0]) ∧ Below w.heap.size w w' := by
  have hmx := hC.2.1
  have HC := Lib.hid hC
  have HX := Lib.hid hx
  have hw : wrap64 (rows * cols) = (xs.length : Int) := by
    have m := mul_small (a := rows) (b := cols) (by omega) (by omega) (by omega) (by omega)
    rw [wrap_small (by omega) (by omega), hx]
  have hbound : xs.length ≤ 4096 := by
    have m := mul_small (a := rows) (b := cols) (by omega) (by omega) (by omega) (by omega)
    omega
  obtain ⟨p, hp⟩ : ∃ p : Nat, rows * col = (p : Int) := ⟨(rows * col).toNat, by
    have : 0 ≤ rows * col := Int.mul_nonneg (by omega) (by omega)
    omega⟩
  have hp1 : wrap64 (rows * col) = (p : Int) := by rw [hp]; exact wrap_small (by omega) (by omega)
  have hp2 : wrap64 ((p : Int) + row) = (m : Int) := by rw [hm, hp]; exact wrap_small (by omega) (by omega)
  have HM := Lib.hid hm
  have hwx : wrap64 xs[m] = xs[m] := by have := h16 _ (List.getElem_mem hml); unfold wrap64; omega
  clear hC hx hp hm
  have H16 := Lib.hid h16
  clear h16
  go_enter Tryd.func14, Tryd.ntmps14
  go_wp2
  go_loopw [66] (fun i wr => ∃ k : Nat, ∃ v : Value, k ≤ xs.length ∧ i = .int .i64 k ∧ Hid (wr.heap[w.heap.size]? = some (.cells #[.int .i64 rows, .int .i64 cols, v] tCT (0, 0))) ∧ Hid ((Kd.int .i16).R 73 wr (w.heap.size + 1) (fun _ => True) v (xs.take k)) ∧ Hid (Below w.heap.size w wr) ∧ w.heap.size + 1 ≤ wr.heap.size) (fun i _ => xs.length - (intOf i).toNat)
  case atStart => exact ⟨0, _, Nat.zero_le _, rfl, Lib.hid (heap_alloc_new _ _), Lib.hid (Kd.R_nil _ _ _ _ _), Lib.hid (below_alloc (Below.refl _ _) _), by simp⟩
  case round =>
    obtain ⟨k, v, hk, rfl, hblk, hR, hbel, hsz⟩ := hrel
    have c0 : wr.cell? ⟨w.heap.size, 0, none⟩ = some (.int .i64 rows) := cell_block hblk.out 0
    have c1 : wr.cell? ⟨w.heap.size, 1, none⟩ = some (.int .i64 cols) := cell_block hblk.out 1
    have c2 : wr.cell? ⟨w.heap.size, 2, none⟩ = some v := cell_block hblk.out 2
    have f2 := frozen_block hblk.out 2
    by_cases hlt : k < xs.length
    · obtain ⟨ad, rfl, hs⟩ := int_at HC.out k hlt
      have hs' := (hbel.out.cell (World.block_lt_of_cell? w _ hs)).trans hs
      have hx16 := H16.out _ (List.getElem_mem hlt)
      have hwr : IntKind.i16.wrap xs[k] = xs[k] := by simp [IntKind.wrap, IntKind.bits, IntKind.signed]; omega
      clear hs
      go_wp2_with (at_builtin; refine kapp (w0 := wr) (Kd.int .i16) (w.heap.size + 1) rfl _ _ 70 73 (.int .i16 0) 2 rfl Tryd.underlying70 (by kernel_rfl) rfl (by decide) (by decide) _ (xs.take k) xs[k] [.int .i16 xs[k]] (fun _ => True) (fun _ => False) wr.heap.size rfl rfl ?hg rfl (fun _ h => h.elim) (fun _ _ => trivial) (Kd.R_alloc hR.out _) ((Below.refl (w.heap.size + 1) wr).alloc (by omega) _) (by simp; omega) ?hl ?_)
      case hg =>
        intro j u hj
        rw [cell_of_heap (heap_new wr _)]
        simpa using hj
      case hl => simp; omega
      intro v1 w4 hR4 hB4 hg4 hat4
      have hb4 : w4.heap[w.heap.size]? = some (.cells #[.int .i64 rows, .int .i64 cols, v] tCT (0, 0)) := (hB4.block _ (Nat.lt_succ_self _)).trans hblk.out
      have hf4 := frozen_block hb4 2
      have hc4 : w4.cell? ⟨w.heap.size, 2, none⟩ = some v := cell_block hb4 2
      have HB4 := Lib.hid hb4
      have hsz4 : w.heap.size + 1 ≤ w4.heap.size := Nat.le_trans hsz hB4.size
      have HL4 := Lib.hid (hbel.out.trans (hB4.mono (Nat.le_succ _)))
      obtain ⟨A1, c1', hv1⟩ := Kd.R_slice hR4
      rw [List.length_take, Nat.min_eq_left (by omega)] at hv1
      subst hv1
      have HR4 := Lib.hid hR4
      clear hg4 hat4 hb4 hR4 hB4 c0 c1 c2 f2
      go_wp2
      refine ⟨⟨k + 1, _, by omega, by go_num, Lib.hid (Lib.heap_setCell_same HB4.out _), Lib.hid ?_, Lib.hid (HL4.out.setCell (p := ⟨w.heap.size, 2, none⟩) (Nat.le_refl _) _), Nat.le_trans hsz4 ((Below.refl 0 w4).setCell (p := ⟨w.heap.size, 2, none⟩) (Nat.zero_le _) _).size⟩, by simp [intOf]; omega⟩
      exact Kd.R_set HR4.out HB4.out (by simp [Kd.int, Kd.scalar]) _ _
    · obtain rfl : k = xs.length := by omega
      have hRR := hR.out
      rw [List.take_length] at hRR
      obtain ⟨A2, c2', rfl, hc2, hC2⟩ := Kd.R_reads hRR
      have hbuf : Buf wr.heap.size wr.heap.size [] (wr.alloc (.cells #[.slice none 0 0, .int .i64 0, .int .i8 0] tBuf)) := LibA.of_whole (Lib.fresh_isBuffer tBuf U8 wr)
      have b1 : (wr.alloc (.cells #[.slice none 0 0, .int .i64 0, .int .i8 0] tBuf)).heap[w.heap.size]? = some (.cells #[.int .i64 rows, .int .i64 cols, .slice A2 xs.length c2'] tCT (0, 0)) := blk_alloc hblk.out _
      have d0 : (wr.alloc (.cells #[.slice none 0 0, .int .i64 0, .int .i8 0] tBuf)).cell? ⟨w.heap.size, 0, none⟩ = some (.int .i64 rows) := cell_block b1 0
      have d1 : (wr.alloc (.cells #[.slice none 0 0, .int .i64 0, .int .i8 0] tBuf)).cell? ⟨w.heap.size, 1, none⟩ = some (.int .i64 cols) := cell_block b1 1
      have d2 : (wr.alloc (.cells #[.slice none 0 0, .int .i64 0, .int .i8 0] tBuf)).cell? ⟨w.heap.size, 2, none⟩ = some (.slice A2 xs.length c2') := cell_block b1 2
      have HBuf := Lib.hid hbuf
      have HC2 := Lib.hid hC2
      have HLb := Lib.hid (below_alloc (Below.refl wr.heap.size wr) (.cells #[.slice none 0 0, .int .i64 0, .int .i8 0] tBuf))
      clear hRR hC2 hbuf b1 c0 c1 c2 f2
      go_wp2_with fail
      refine (ct_writeTo rows cols A2 c2' xs wr.heap.size wr.heap.size [] _ HBuf.out (by simp) (by simp; omega) (fun w' hl _ => Kd.C_below HC2.out (HLb.out.trans hl))).mono ?_
      rintro e w5 ⟨rfl, hb5, hl5, ho5⟩
      have HB5 := Lib.hid (show Buf wr.heap.size wr.heap.size (leB rows 8 ++ leB cols 8 ++ le2s xs) w5 from hb5)
      have HL5 := Lib.hid (HLb.out.trans hl5)
      have hlen : (nums .u8 (leB rows 8 ++ leB cols 8 ++ le2s xs)).length = 16 + 2 * xs.length := by simp [nums, leB_length, le2s_length]; omega
      clear hb5 hl5 ho5 d0 d1 d2
      go_wp2_with fail
      refine (Tryd.Buffer_Len_at tBuf (fun _ => none) wr.heap.size wr.heap.size 0 _ w5 HB5.out).mono ?_
      rintro e w6 ⟨rfl, n6, rfl⟩
      rw [hlen]
      have hb6 : Buf wr.heap.size wr.heap.size (leB rows 8 ++ leB cols 8 ++ le2s xs) (w5.drewN n6) := HB5.out
      have hl6 : Below wr.heap.size wr (w5.drewN n6) := pw_below_drewN HL5.out n6
      generalize w5.drewN n6 = w6 at hb6 hl6 ⊢
      have HB6 := Lib.hid hb6
      have HL6 := Lib.hid hl6
      clear hb6 hl6 HB5 HL5 HBuf
      go_wp2_with fail
      refine (Tryd.Buffer_Bytes wr.heap.size wr.heap.size _ w6 (buf_whole HB6.out)).mono ?_
      rintro e w7 ⟨v7, rfl, ho7, n7, rfl⟩
      rw [hlen] at ho7
      obtain ⟨g7, cap7, cur7, rfl, hg7, hh7, hcap7, hmax7, hcs7, htk7⟩ : ∃ g cap cur, v7 = .slice (some ⟨g, 0, none⟩) (16 + 2 * xs.length) cap ∧ wr.heap.size ≤ g ∧ (w6.drewN n7).heap[g]? = some (.cells cur U8 (0, 0)) ∧ 16 + 2 * xs.length ≤ cap ∧ cap ≤ maxLen ∧ cur.size = cap ∧ cur.toList.take (16 + 2 * xs.length) = nums .u8 (leB rows 8 ++ leB cols 8 ++ le2s xs) := by
        rcases ho7.2 with ⟨_, h⟩ | ⟨g, cap, cur, h1, h2, h3, h4, h5, h6, h7⟩
        · omega
        · exact ⟨g, cap, cur, h1, h2, h3, h4, h5, by omega, by simpa using h7⟩
      have hb7 : Buf wr.heap.size wr.heap.size (leB rows 8 ++ leB cols 8 ++ le2s xs) (w6.drewN n7) := HB6.out
      have hl7 : Below wr.heap.size wr (w6.drewN n7) := pw_below_drewN HL6.out n7
      generalize w6.drewN n7 = w8 at hh7 hb7 hl7 ⊢
      have hs7 : Src w8 ⟨g7, 0, none⟩ (leB rows 8 ++ leB cols 8 ++ le2s xs) := by
        intro j x hx
        rw [add_plain, cell_block hh7]
        rw [← htk7] at hx
        have hj : j < 16 + 2 * xs.length := by
          rcases Nat.lt_or_ge j (16 + 2 * xs.length) with h | h
          · exact h
          · rw [List.getElem?_take, if_neg (by omega)] at hx; cases hx
        rw [List.getElem?_take, if_pos hj] at hx
        simpa using hx
      have HB8 := Lib.hid hb7
      have HL8 := Lib.hid hl7
      have HS8 := Lib.hid hs7
      have HH8 := Lib.hid hh7
      have hglt := lt_of_heap hh7
      have hblt : wr.heap.size < w8.heap.size := hb7.lt
      clear hh7 hb7 hl7 hs7 ho7 HB6 HL6 htk7 hcs7
      go_wp2_with fail
      refine (newReader_any (some ⟨g7, 0, none⟩) (16 + 2 * xs.length) cap7 w8).mono ?_
      rintro e w9 ⟨rfl, rfl⟩
      have k9 : Keeps (fun i => w8.heap.size ≤ i) w8 (w8.alloc (.cells #[.slice (some ⟨g7, 0, none⟩) (16 + 2 * xs.length) cap7, .int .i64 0, .int .i64 (-1)] tRd)) := Keeps.of_below (below_alloc (Below.refl _ _) _)
      have hrd9 : Rdr w8.heap.size ⟨g7, 0, none⟩ (16 + 2 * xs.length) cap7 0 (w8.alloc (.cells #[.slice (some ⟨g7, 0, none⟩) (16 + 2 * xs.length) cap7, .int .i64 0, .int .i64 (-1)] tRd)) := ⟨-1, heap_alloc_new _ _⟩
      have hs9 := HS8.out.keeps k9 (by show ¬ w8.heap.size ≤ g7; omega)
      have HK9 := Lib.hid k9
      have HRD9 := Lib.hid hrd9
      have HS9 := Lib.hid hs9
      clear k9 hrd9 hs9
      go_wp2_with fail
      refine (ct_read rows cols xs w8.heap.size cap7 ⟨g7, 0, none⟩ _ (by omega) (by omega) HX.out H16.out HRD9.out hcap7 hmax7 (by show g7 ≠ w8.heap.size; omega) (by simp; omega) HS9.out).mono ?_
      rintro e w10 ⟨A10, rfl, hc10, hk10⟩
      have hk10' : Keeps (fun i => w8.heap.size ≤ i) w8 w10 := HK9.out.trans (hk10.mono (fun i _ h => by
        rcases h with rfl | h
        · exact Nat.le_refl _
        · simp at h; omega))
      have hb10 := HB8.out.keeps hk10' (by omega) (fun i hi hs => by omega)
      have hl10 : Below wr.heap.size wr w10 := HL8.out.trans (hk10'.below (fun i _ h => by omega) (by omega))
      have hC10 := Kd.C_below hc10 (below_alloc (Below.refl _ _) (.cells #[.int .i64 rows, .int .i64 cols, .slice A10 xs.length xs.length] tCT))
      have hg10 : (w10.alloc (.cells #[.int .i64 rows, .int .i64 cols, .slice A10 xs.length xs.length] tCT)).heap[w10.heap.size]? = _ := heap_alloc_new _ _
      have HC10 := Lib.hid hC10
      have HG10 := Lib.hid hg10
      have HB10 := Lib.hid hb10
      have HL10 := Lib.hid hl10
      clear hc10 hk10 hk10' hb10 hl10 hC10 hg10
      go_wp2_with fail
      refine (ct_at w10.heap.size rows cols A10 xs.length xs col row p m _ HG10.out HC10.out hp1 hp2 hml).mono ?_
      rintro e w11 ⟨rfl, n11, rfl⟩
      have hb12 : Buf wr.heap.size wr.heap.size (leB rows 8 ++ leB cols 8 ++ le2s xs) ((w10.alloc (.cells #[.int .i64 rows, .int .i64 cols, .slice A10 xs.length xs.length] tCT)).drewN n11) :=
        HB10.out.keeps (S := fun i => w10.heap.size ≤ i) ((Keeps.of_below (below_alloc (Below.refl _ _) _)).drewN n11) (by have := HB10.out.lt; show ¬ w10.heap.size ≤ wr.heap.size; omega) (fun i hi hs => by omega)
      have hl12 : Below wr.heap.size wr ((w10.alloc (.cells #[.int .i64 rows, .int .i64 cols, .slice A10 xs.length xs.length] tCT)).drewN n11) := pw_below_drewN (HL10.out.alloc HL10.out.size _) n11
      generalize (w10.alloc (.cells #[.int .i64 rows, .int .i64 cols, .slice A10 xs.length xs.length] tCT)).drewN n11 = w12 at hb12 hl12 ⊢
      have HB12 := Lib.hid hb12
      have HL12 := Lib.hid hl12
      clear hb12 hl12 HB10 HL10 HC10 HG10
      go_wp2_with fail
      refine (Tryd.Buffer_Bytes wr.heap.size wr.heap.size _ w12 (buf_whole HB12.out)).mono ?_
      rintro e w13 ⟨v13, rfl, _, n13, rfl⟩
      go_wp2
      refine bodyPost_ret (results_tmp3 rfl _ _ _) rfl ?_
      exact ⟨_, rfl, hbel.out.trans ((pw_below_drewN HL12.out n13).mono (by omega))⟩

set_option maxHeartbeats 1000000 in
set_option maxRecDepth 5000 in
theorem costsOne_any (w : World) : Calls Tryd.prog 13 #[] w fun e w' => e = .returned (.bool true) ∧ Below w.heap.size w w' := by
  have hC : (Kd.int .i64).C (w.alloc (.cells #[.int .i64 (-4)] 3)) (some ⟨w.heap.size, 0, none⟩) [(-4 : Int)].length [(-4 : Int)] := C_of_block (cs := [.int .i64 (-4)]) (heap_alloc_new _ _) (reps_ints _ _ [(-4 : Int)]) (by simp)
  have HC := Lib.hid hC
  clear hC
  go_enter Tryd.func13, Tryd.ntmps13
  go_wp2_with fail
  refine (impl_conn 1 1 0 0 (some ⟨w.heap.size, 0, none⟩) 1 [(-4 : Int)] 0 _ (by omega) (by omega) HC.out (by simp) (by omega) (by omega) (by intro x hx; simp at hx; omega) (by simp) (by simp)).mono ?_
  rintro e w1 ⟨v, rfl, hl⟩
  have HL := Lib.hid ((below_alloc (Below.refl w.heap.size w) (.cells #[.int .i64 (-4)] 3)).trans (hl.mono (by simp)))
  clear hl
  go_wp2
  go_ret
  exact ⟨rfl, HL.out⟩

set_option maxHeartbeats 2000000 in
set_option maxRecDepth 5000 in
theorem conn_walk (rows cols row col : Int) (A : Option Addr) (c : Nat) (xs : List Int) (w : World) (hr : -9223372036854775808 ≤ rows ∧ rows ≤ 9223372036854775807) (hcl : -9223372036854775808 ≤ cols ∧ cols ≤ 9223372036854775807)
    (hC : (Kd.int .i64).C w A xs.length xs) : 
    Calls Tryd.prog 3 #[.int .i64 rows, .int .i64 cols, .slice A xs.length c, .int .i64 row, .int .i64 col] w fun e w' => e = .returned (.bool true) ∧ Below w.heap.size w w' := by
  have HC := Lib.hid hC
  clear hC
  go_enter Tryd.func3, Tryd.ntmps3
  by_cases hsz : 2147483647 < xs.length
  · go_wp2
    go_ret
    exact ⟨rfl, Below.refl _ _⟩
  go_wp2_with fail
  refine (table_any rows cols A c xs w hr hcl HC.out).mono ?_
  rintro e w1 ⟨b, rfl, hb, rfl⟩
  have HB := Lib.hid hb
  clear hb
  cases b
  · go_wp2_with fail
    refine (costsOne_any w1).mono ?_
    rintro e w2 ⟨rfl, hl⟩
    have HL := Lib.hid hl
    clear hl
    go_wp2
    go_ret
    exact ⟨rfl, HL.out⟩
  obtain ⟨h16, hr1, hr2, hc1, hc2, hx⟩ := HB.out rfl
  have H16 := Lib.hid h16
  have HX := Lib.hid hx
  have hm := mul_small (a := rows) (b := cols) hr1 (by omega) hc1 (by omega)
  clear HB h16 hx
  by_cases hbad : row < 0 ∨ rows ≤ row ∨ col < 0 ∨ cols ≤ col
  · have : (row < 0) ∨ (¬ row < 0 ∧ rows ≤ row) ∨ (¬ row < 0 ∧ ¬ rows ≤ row ∧ col < 0) ∨ (¬ row < 0 ∧ ¬ rows ≤ row ∧ ¬ col < 0 ∧ cols ≤ col) := by omega
    rcases this with h1 | ⟨h1, h2⟩ | ⟨h1, h2, h3⟩ | ⟨h1, h2, h3, h4⟩
    all_goals
      clear hbad
      go_wp2_with fail
      refine (costsOne_any w1).mono ?_
      rintro e w2 ⟨rfl, hl⟩
      have HL := Lib.hid hl
      clear hl
      go_wp2
      go_ret
      exact ⟨rfl, HL.out⟩
  · have h1 : ¬ row < 0 := fun h => hbad (.inl h)
    have h2 : ¬ rows ≤ row := fun h => hbad (.inr (.inl h))
    have h3 : ¬ col < 0 := fun h => hbad (.inr (.inr (.inl h)))
    have h4 : ¬ cols ≤ col := fun h => hbad (.inr (.inr (.inr h)))
    clear hbad
    obtain ⟨p, hp⟩ : ∃ p : Nat, rows * col = (p : Int) := ⟨(rows * col).toNat, by
      have : 0 ≤ rows * col := Int.mul_nonneg (by omega) (by omega)
      omega⟩
    have hpl : (p : Int) + rows ≤ rows * cols := by
      have : rows * (col + 1) ≤ rows * cols := Int.mul_le_mul_of_nonneg_left (by omega) (by omega)
      rw [Int.mul_add, Int.mul_one, hp] at this
      exact this
    obtain ⟨m, hm2⟩ : ∃ m : Nat, (p : Int) + row = m := ⟨((p : Int) + row).toNat, by omega⟩
    have hml : m < xs.length := by have := HX.out; omega
    have hp1 : wrap64 (rows * col) = (p : Int) := by rw [hp]; exact wrap_small (by omega) (by omega)
    have hp2 : wrap64 ((p : Int) + row) = (m : Int) := by rw [hm2]; exact wrap_small (by omega) (by omega)
    have HM := Lib.hid (show (m : Int) = rows * col + row by rw [hp, hm2])
    clear hp hm2 hpl
    go_wp2_with fail
    refine (impl_conn rows cols row col A c xs m w1 (by omega) (by omega) HC.out HX.out (by omega) (by omega) H16.out HM.out hml).mono ?_
    rintro e w2 ⟨v, rfl, hl2⟩
    obtain ⟨ad, rfl, hs⟩ := int_at HC.out m hml
    have hs2 := (hl2.cell (World.block_lt_of_cell? _ _ hs)).trans hs
    have HL2 := Lib.hid hl2
    clear hl2 hs
    go_wp2_with fail
    refine (costsOne_any w2).mono ?_
    rintro e w3 ⟨rfl, hl3⟩
    have HL3 := Lib.hid (HL2.out.trans (hl3.mono HL2.out.size))
    clear hl3
    go_wp2
    go_ret
    exact ⟨rfl, HL3.out⟩
end Go.Proofs.YtaniafohcaiedaaDoor.Z
