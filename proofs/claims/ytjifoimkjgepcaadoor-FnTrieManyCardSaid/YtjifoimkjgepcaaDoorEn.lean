/-
  The walk of impl.TrieBytes and of the law FnTrieBytesForm.
-/
import Derived.Test.YtjifoimkjgepcaaDoorZy
import Derived.Test.YtjifoimkjgepcaaDoorEg
import Derived.Lib.EndianBits
set_option linter.unusedVariables false
set_option linter.unusedSimpArgs false
namespace Go.Proofs.YtjifoimkjgepcaaDoor.Da
open Go.RowKit Go.ChangeShapes Go.Proofs.YtjifoimkjgepcaaDoor.K Go.Proofs.YtjifoimkjgepcaaDoor.Z Go.Proofs.YtjifoimkjgepcaaDoorW.PrintWords

theorem three_back {w : World} {b : Nat} {x y z : Value} (h : LibA.Three w b 0 tBuf (fun _ => none) x y z) : w.heap[b]? = some (.cells #[x, y, z] tBuf (0, 0)) := by
  obtain ⟨cs, hb, h0, h1, h2, hr⟩ := h
  rw [hb]
  have : cs = #[x, y, z] := by
    have h3 := hr 3 (.inr (by omega))
    have hs : cs.size = 3 := by
      have a2 := (Array.getElem?_eq_some_iff.1 h2).1
      have a3 := Array.getElem?_eq_none_iff.1 h3
      omega
    apply Array.ext
    · simpa using hs
    · intro i hi hi'
      have : i = 0 ∨ i = 1 ∨ i = 2 := by omega
      rcases this with rfl | rfl | rfl
      · have := Array.getElem?_eq_getElem hi; rw [h0] at this; simpa using this.symm
      · have := Array.getElem?_eq_getElem hi; rw [h1] at this; simpa using this.symm
      · have := Array.getElem?_eq_getElem hi; rw [h2] at this; simpa using this.symm
  rw [this]
theorem buf_whole {B b : Nat} {xs : List Int} {w : World} (h : Buf B b xs w) : Lib.IsBuffer tBuf U8 B b (nums .u8 xs) w := by
  obtain ⟨hB, v, lr, hbk, r⟩ := h
  exact ⟨hB, v, lr, three_back hbk, r⟩
theorem buf_new (w : World) : Buf w.heap.size w.heap.size [] (w.alloc (.cells #[.slice none 0 0, .int .i64 0, .int .i8 0] tBuf)) := LibA.of_whole (Lib.fresh_isBuffer tBuf U8 w)
theorem src_of {w : World} {g n : Nat} {cur : Array Value} {bs : List Int} (hg : w.heap[g]? = some (.cells cur U8 (0, 0))) (ht : cur.toList.take n = nums .u8 bs) : ∀ j x, (nums .u8 bs)[j]? = some x → w.cell? ⟨g, j, none⟩ = some x := by
  intro j x hx
  rw [cell_block hg]
  rw [← ht] at hx
  have hj : j < n := by
    rcases Nat.lt_or_ge j n with h | h
    · exact h
    · rw [List.getElem?_take, if_neg (by omega)] at hx; cases hx
  rw [List.getElem?_take, if_pos hj] at hx
  simpa using hx


/-- The bytes of a trie. -/
def TbOut (w : World) (e : Ending) (w' : World) : Prop := ∃ (n : Nat) (zs : List Int) (g cap : Nat), e = .returned (.tuple #[.slice (some ⟨g, 0, none⟩) (8 + 8 * n) cap, .int .i64 0]) ∧ 0 < n ∧ n ≤ 536870918 ∧
  (∀ j x, (nums .u8 (leB n 8))[j]? = some x → w'.cell? ⟨g, j, none⟩ = some x) ∧ Below w.heap.size w w'
set_option maxHeartbeats 2000000 in
set_option maxRecDepth 100000 in
theorem trieBytes_any (Ak Ai : Option Addr) (ck ci : Nat) (keys : List ByteArray) (ids : List Int) (w : World) (hk : Keys keys ids) (hkC : Kd.string.C w Ak keys.length keys) (hiC : (Kd.int .i64).C w Ai ids.length ids) :
    Calls Tryd.prog 19 #[.slice Ak keys.length ck, .slice Ai ids.length ci] w (TbOut w) := by
  have HK := Lib.hid hk
  have HKC := Lib.hid hkC
  have HIC := Lib.hid hiC
  have hlen := hk.len
  have hil := hk.il
  have HIL := Lib.hid hil
  have hpos : 0 < keys.length := List.length_pos_iff.2 hk.ne
  have hipos : 0 < ids.length := by omega
  have hilen : ids.length ≤ 4000 := by omega
  clear hk hkC hiC hil
  go_enter Tryd.func19, Tryd.ntmps19
  go_wp2_with fail
  refine (clone_strs Ak ck keys w HKC.out (by omega)).mono ?_
  rintro e w1 ⟨v1, rfl, hr1, hb1⟩
  obtain ⟨kb, c1, rfl, hkb, hkl, curk, hkh⟩ := Kd.R_form hr1 hpos
  obtain ⟨A1', c1', hv1, hlc1, hC1⟩ := Kd.R_reads hr1
  injection hv1 with e1 _ _
  subst e1
  have HB1 := Lib.hid hb1
  have HC1 := Lib.hid hC1
  have HIC1 := Lib.hid (Kd.C_below HIC.out hb1)
  clear hr1 hb1 hC1 hkh
  go_wp2_with fail
  refine (clone_ints Ai ci ids w1 HIC1.out (by omega)).mono ?_
  rintro e w2 ⟨v2, rfl, hr2, hb2⟩
  obtain ⟨ib, c2, rfl, hib, hibl, curi, hih⟩ := Kd.R_form hr2 hipos
  obtain ⟨A2', c2', hv2, hlc2, hC2⟩ := Kd.R_reads hr2
  injection hv2 with e2 _ _
  subst e2
  have HB2 := Lib.hid (HB1.out.trans (hb2.mono HB1.out.size))
  have HC2 := Lib.hid hC2
  have HC12 := Lib.hid (Kd.C_below HC1.out hb2)
  clear hr2 hb2 hC2 hih
  go_wp2_with fail
  refine (build_any kb ib _ _ keys ids w2 HK.out HC12.out HC2.out).mono ?_
  rintro e w3 ⟨g, A, rfl, ht, hg, hb3⟩
  have HT := Lib.hid ht
  have HB3 := Lib.hid (HB2.out.trans (hb3.mono HB2.out.size))
  have hn := ht.n
  have hn0 := ht.pos
  have hgl : g < w3.heap.size := lt_of_heap ht.arr
  have HGA : Hid ((w3.alloc (.cells #[.slice none 0 0, .int .i64 0, .int .i8 0] tBuf)).heap[g]? = some (.cells (cellsOf A) tEl (0, 0))) := Lib.hid (heap_old ht.arr _)
  have HBuf := Lib.hid (buf_new w3)
  have HBa := Lib.hid (HB3.out.alloc HB3.out.size (.cells #[.slice none 0 0, .int .i64 0, .int .i8 0] tBuf))
  clear ht hb3
  go_wp2_with fail
  refine (da_writeTo g A w3.heap.size w3.heap.size [] _ HGA.out hgl HBuf.out (by simp) hn (by simp)).mono ?_
  rintro e w4 ⟨rfl, hb4, hl4⟩
  rw [List.nil_append] at hb4
  have HB4 := Lib.hid hb4
  have HL4 := Lib.hid (HBa.out.trans (hl4.mono HB3.out.size))
  obtain ⟨N, hN⟩ : ∃ N, 8 + 8 * A.n = N := ⟨_, rfl⟩
  have hlen : (nums .u8 (leB A.n 8 ++ daB A A.n)).length = N := by
    simp only [nums, List.length_map, List.length_append, leB_length, daB_length]
    exact hN
  rw [hN]
  have HNN := Lib.hid hN
  clear hb4 hl4 hN
  go_wp2_with fail
  refine (Tryd.Buffer_Len_at tBuf (fun _ => none) w3.heap.size w3.heap.size 0 _ w4 HB4.out).mono ?_
  rintro e w5 ⟨rfl, n3, rfl⟩
  rw [hlen]
  have HB5 : Hid (Buf w3.heap.size w3.heap.size (leB A.n 8 ++ daB A A.n) (w4.drewN n3)) := Lib.hid HB4.out
  have HL5 := Lib.hid (pw_below_drewN HL4.out n3)
  go_wp2_with fail
  refine (Tryd.Buffer_Bytes w3.heap.size w3.heap.size _ _ (buf_whole HB5.out)).mono ?_
  rintro e w6 ⟨v6, rfl, ho6, n6, rfl⟩
  rw [hlen] at ho6
  have HO6 := Lib.hid ho6
  have HL6 := Lib.hid (pw_below_drewN HL5.out n6)
  have HLEN := Lib.hid hlen
  clear ho6 hlen
  go_wp2_with fail
  go_ret2
  rcases HO6.out.2 with ⟨_, h⟩ | ⟨gb, cap, cur, rfl, h2, h3, h4, h5, h6, h7⟩
  · have := HNN.out; omega
  · refine ⟨A.n, leB A.n 8 ++ daB A A.n, gb, cap, by rw [HNN.out]; rfl, hn0, hn, fun j x hx => ?_, pw_below_drewN HL4.out _⟩
    have hj : j < (nums .u8 (leB A.n 8)).length := (List.getElem?_eq_some_iff.1 hx).1
    refine src_of (n := N) h3 (by simpa using h7) j x ?_
    rw [nums_append, List.getElem?_append_left hj]
    exact hx
end Go.Proofs.YtjifoimkjgepcaaDoor.Da
